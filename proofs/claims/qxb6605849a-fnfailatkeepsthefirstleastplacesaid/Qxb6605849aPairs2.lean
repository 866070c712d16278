import Derived.Test.Qxb6605849aPairs
namespace Go.Proofs.Qxb6605849a
open Go.RowKit Go.Maps

theorem run_make_pairs {P : Program} (t e : TypeId) (x y : Value) (bytes : Nat) (ht : P.underlying t = some (.slice e)) (hinfo : (P.info? e).map (fun i => (i.zero, i.size, i.bytes)) = some (some (.agg #[x, y]), 2, bytes))
    (kl kc : IntKind) (n : Nat) (hbytes : bytes * n ≤ 281474976710656) (h63 : n ≤ 9223372036854775807) (w : World) :
    (Instr.makeSlice t (.int kl (n : Int)) (.int kc (n : Int))).run P w = .ok (.slice (some ⟨w.heap.size, 0, none⟩) n n) (w.alloc (.cells (madeCells #[x, y] (n * 2)) e)) := by
  obtain ⟨i, hi, hzz⟩ := Option.map_eq_some_iff.1 hinfo
  simp only [Prod.mk.injEq] at hzz
  obtain ⟨hz, hs, hb⟩ := hzz
  have hb' : (i.bytes : Int) * (n : Int) ≤ 281474976710656 := by
    have h : ((i.bytes * n : Nat) : Int) ≤ 281474976710656 := by rw [hb]; omega
    rwa [Int.natCast_mul] at h
  have hr := run_make (P := P) w t e i _ ht hi hz kl kc n n (by omega) (Int.le_refl _) hb' (by omega)
  simp only [Int.toNat_natCast, hs] at hr
  exact hr

/-- Block b is a row of n pairs. -/
def PairRow (w : World) (b : Nat) (t : TypeId) (n : Nat) (f g : Nat → Value) : Prop := w.rowIs b t (n * 2) (fun i => if i % 2 = 0 then f (i / 2) else g (i / 2))

theorem pairRow_made (w : World) (x y : Value) (n : Nat) (t : TypeId) : PairRow (w.alloc (.cells (madeCells #[x, y] (n * 2)) t)) w.heap.size t n (fun _ => x) (fun _ => y) := by
  have h := World.rowIs_alloc w (madeCells #[x, y] (n * 2)) t (fun i => if i % 2 = 0 then x else y) (fun i hi => by
    rw [size_madeCells] at hi
    simp only [madeCells, Array.getElem?_map, List.size_toArray, List.length_cons, List.length_nil]
    rw [Array.getElem?_eq_getElem (by simpa using hi)]
    simp only [Array.getElem_range, Option.map_some, Option.some.injEq]
    have h2 : i % (0 + 1 + 1) = i % 2 := rfl
    rw [h2]
    rcases Nat.mod_two_eq_zero_or_one i with h | h <;> simp [h])
  rw [size_madeCells] at h
  exact h

theorem PairRow.cells {w : World} {b : Nat} {t : TypeId} {n : Nat} {f g : Nat → Value} (h : PairRow w b t n f g) {k : Nat} (hk : k < n) :
    w.cell? ⟨b, k * 2, none⟩ = some (f k) ∧ w.cell? ⟨b, k * 2 + 1, none⟩ = some (g k) := by
  have h1 := World.rowIs.cell h (i := k * 2) (by omega)
  have h2 := World.rowIs.cell h (i := k * 2 + 1) (by omega)
  rw [h1, h2]
  rw [if_pos (by omega), if_neg (by omega)]
  have e1 : k * 2 / 2 = k := by omega
  have e2 : (k * 2 + 1) / 2 = k := by omega
  rw [e1, e2]
  exact ⟨rfl, rfl⟩

theorem PairRow.set {w : World} {b : Nat} {t : TypeId} {n : Nat} {f g : Nat → Value} (h : PairRow w b t n f g) (k : Nat) (x y : Value) :
    PairRow ((w.setCell ⟨b, k * 2, none⟩ x).setCell ⟨b, k * 2 + 1, none⟩ y) b t n (fun j => if j = k then x else f j) (fun j => if j = k then y else g j) := by
  refine ((World.rowIs.set h (k * 2) x).set (k * 2 + 1) y).congr fun i hi => ?_
  dsimp only
  by_cases h1 : i = k * 2 + 1
  · rw [if_pos h1, if_neg (by omega), if_pos (by omega)]
  · rw [if_neg h1]
    by_cases h2 : i = k * 2
    · rw [if_pos h2, if_pos (by omega), if_pos (by omega)]
    · rw [if_neg h2]
      by_cases h3 : i % 2 = 0
      · rw [if_pos h3, if_pos h3, if_neg (by omega)]
      · rw [if_neg h3, if_neg h3, if_neg (by omega)]

theorem PairRow.congr {w : World} {b : Nat} {t : TypeId} {n : Nat} {f g f' g' : Nat → Value} (h : PairRow w b t n f g) (hf : ∀ i, i < n → f i = f' i) (hg : ∀ i, i < n → g i = g' i) : PairRow w b t n f' g' := by
  refine World.rowIs.congr h fun i hi => ?_
  rw [hf _ (by omega), hg _ (by omega)]

theorem PairRow.at {w : World} {b : Nat} {t : TypeId} {n : Nat} {f g : Nat → Value} (h : PairRow w b t n f g) : PairsAt w (some ⟨b, 0, none⟩) n f g :=
  .inr ⟨b, 0, rfl, World.rowIs.lt h, fun j hj => by rw [Nat.zero_add]; exact h.cells hj⟩

theorem info34 : (Try.prog.info? 34).map (fun i => (i.zero, i.size, i.bytes)) = some (some (.agg #[.string ByteArray.empty, .bool false]), 2, 24) := by kernel_rfl

def ClonePairsPost (w : World) (n : Nat) (f g : Nat → Value) (e : Ending) (w' : World) : Prop :=
  ∃ a' c', e = .returned (.slice a' n c') ∧ Only nothing w w' ∧ PairsAt w' a' n f g

set_option maxHeartbeats 400000 in
theorem clone13 (a : Option Addr) (n c : Nat) (kk : Nat → ByteArray) (vv : Nat → Bool) (w : World) (hp : PairsAt w a n (fun j => .string (kk j)) (fun j => .bool (vv j))) (hle : n ≤ 1048576) (hnil : a = none → n = 0) :
    Calls Try.prog 13 #[.slice a n c] w (ClonePairsPost w n (fun j => .string (kk j)) (fun j => .bool (vv j))) := by
  have hq := fun (w : World) (a : Option Addr) (n c : Nat) => Lib.run_eql_slice_nil (P := Try.prog) w 31 34 a n c 0 0 Try.underlying31
  cases a with
  | none =>
    obtain rfl := hnil rfl
    go_enter Try.func13, Try.ntmps13
    go_wp2
    go_ret
    exact ⟨none, 0, rfl, .refl _ _, .inl rfl⟩
  | some ad =>
    have hmk := run_make_pairs (P := Try.prog) 31 34 _ _ 24 Try.underlying31 info34 .i64 .i64 n (by omega) (by omega)
    go_enter Try.func13, Try.ntmps13
    go_wp2
    go_loopw [4] (fun i wr => ∃ k : Nat, k ≤ n ∧ i = .int .i64 k ∧ Only nothing w wr ∧ PairRow wr w.heap.size 34 n (fun j => .string (if j < k then kk j else ByteArray.empty)) (fun j => .bool (if j < k then vv j else false)))
      (fun i _ => n - (intOf i).toNat)
    case atStart => exact ⟨0, Nat.zero_le _, rfl, (Only.refl _ _).alloc _, (pairRow_made w _ _ n 34).congr (fun j _ => by simp) (fun j _ => by simp)⟩
    case round =>
      obtain ⟨k, hk, rfl, ho, hrow⟩ := hrel
      by_cases hlt : k < n
      · obtain ⟨b, off, hab, hb, hc⟩ := hp.at (k := k) hlt
        obtain rfl : ad = ⟨b, off, none⟩ := Option.some.inj hab
        have hcell := (ho.cell (p := ⟨b, off + k * 2, none⟩) hb (fun h => h)).trans (hc k hlt).1
        have hcell2 := (ho.cell (p := ⟨b, off + k * 2 + 1, none⟩) hb (fun h => h)).trans (hc k hlt).2
        obtain ⟨v0, hv0⟩ : ∃ v, wr.cell? ⟨w.heap.size, k * 2, none⟩ = some v := ⟨_, (hrow.cells hlt).1⟩
        obtain ⟨v1, hv1⟩ : ∃ v, wr.cell? ⟨w.heap.size, k * 2 + 1, none⟩ = some v := ⟨_, (hrow.cells hlt).2⟩
        have hf0 := World.rowIs.frozen hrow (k * 2)
        have hf1 := World.rowIs.frozen hrow (k * 2 + 1)
        generalize hsk : kk k = s at hcell
        generalize hbk : vv k = v at hcell2
        have hrow' := hrow.set k (.string s) (.bool v)
        have ho' := (ho.setCell (p := ⟨w.heap.size, k * 2, none⟩) (fun h => absurd h (Nat.lt_irrefl _)) (.string s)).setCell (p := ⟨w.heap.size, k * 2 + 1, none⟩) (fun h => absurd h (Nat.lt_irrefl _)) (.bool v)
        have Hsk : Hid (kk k = s) := hsk
        have Hbk : Hid (vv k = v) := hbk
        clear hsk hbk hp hc hrow ho hnil
        go_wp2
        go_goals
        go_roundw
        case rel =>
          refine ⟨k + 1, by omega, by go_num, ho', hrow'.congr (fun j hj => ?_) (fun j hj => ?_)⟩
          · by_cases h1 : j = k
            · subst h1; rw [if_pos rfl, if_pos (by omega), Hsk.out]
            · rw [if_neg h1]
              by_cases h2 : j < k
              · rw [if_pos h2, if_pos (by omega)]
              · rw [if_neg h2, if_neg (by omega)]
          · by_cases h1 : j = k
            · subst h1; rw [if_pos rfl, if_pos (by omega), Hbk.out]
            · rw [if_neg h1]
              by_cases h2 : j < k
              · rw [if_pos h2, if_pos (by omega)]
              · rw [if_neg h2, if_neg (by omega)]
        case measure => simp [intOf]; omega
      · have hkn : k = n := by omega
        subst hkn
        go_wp2
        go_ret
        refine ⟨_, _, rfl, ho, (hrow.congr (fun j hj => ?_) (fun j hj => ?_)).at⟩
        · rw [if_pos hj]
        · rw [if_pos hj]

end Go.Proofs.Qxb6605849a
