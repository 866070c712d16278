import Derived.Test.Qxb6605849aDoorBase
import Derived.Deep.OwnRows
namespace Go.Proofs.Qxb6605849aDoor
open Go.RowKit Go.Maps

def sums (xx : Nat → ByteArray) : Nat → Nat
  | 0 => 0
  | k + 1 => sums xx k + (xx k).size
theorem sums_mono (xx : Nat → ByteArray) (k : Nat) : ∀ n, k ≤ n → sums xx k ≤ sums xx n
  | 0, h => by obtain rfl : k = 0 := by omega
               exact Nat.le_refl _
  | n + 1, h => by
    by_cases e : k = n + 1
    · subst e; exact Nat.le_refl _
    · exact Nat.le_trans (sums_mono xx k n (by omega)) (Nat.le_add_right _ _)
theorem sums_each (xx : Nat → ByteArray) (i : Nat) (n : Nat) (h : i < n) : (xx i).size ≤ sums xx n :=
  Nat.le_trans (Nat.le_add_left _ _) (sums_mono xx (i + 1) n h)

/-- The slice's first n elements are triples of cells. -/
def TriplesAt (w : World) (a : Option Addr) (n : Nat) (f g h : Nat → Value) : Prop :=
  n = 0 ∨ ∃ b off, a = some ⟨b, off, none⟩ ∧ b < w.heap.size ∧ ∀ j, j < n → w.cell? ⟨b, off + j * 3, none⟩ = some (f j) ∧ w.cell? ⟨b, off + j * 3 + 1, none⟩ = some (g j) ∧ w.cell? ⟨b, off + j * 3 + 2, none⟩ = some (h j)
theorem TriplesAt.only {S : Nat → Prop} {w w' : World} {a : Option Addr} {n : Nat} {f g h : Nat → Value} (ht : TriplesAt w a n f g h) (ho : Only S w w') (hs : ∀ b o t, a = some ⟨b, o, t⟩ → ¬ S b) : TriplesAt w' a n f g h := by
  rcases ht with ht | ⟨b, off, rfl, hb, hc⟩
  · exact .inl ht
  · exact .inr ⟨b, off, rfl, Nat.lt_of_lt_of_le hb ho.size, fun j hj => ⟨(ho.cell (p := ⟨b, off + j * 3, none⟩) hb (hs b off none rfl)).trans (hc j hj).1, (ho.cell (p := ⟨b, off + j * 3 + 1, none⟩) hb (hs b off none rfl)).trans (hc j hj).2.1, (ho.cell (p := ⟨b, off + j * 3 + 2, none⟩) hb (hs b off none rfl)).trans (hc j hj).2.2⟩⟩
theorem TriplesAt.at {w : World} {a : Option Addr} {n : Nat} {f g h : Nat → Value} (ht : TriplesAt w a n f g h) {k : Nat} (hk : k < n) :
    ∃ b off, a = some ⟨b, off, none⟩ ∧ b < w.heap.size ∧ ∀ j, j < n → w.cell? ⟨b, off + j * 3, none⟩ = some (f j) ∧ w.cell? ⟨b, off + j * 3 + 1, none⟩ = some (g j) ∧ w.cell? ⟨b, off + j * 3 + 2, none⟩ = some (h j) := by
  rcases ht with rfl | h
  · exact absurd hk (Nat.not_lt_zero _)
  · exact h

theorem run_make_triples {P : Program} (t e : TypeId) (x y z : Value) (bytes : Nat) (ht : P.underlying t = some (.slice e)) (hinfo : (P.info? e).map (fun i => (i.zero, i.size, i.bytes)) = some (some (.agg #[x, y, z]), 3, bytes))
    (kl kc : IntKind) (n : Nat) (hbytes : bytes * n ≤ 281474976710656) (h63 : n ≤ 9223372036854775807) (w : World) :
    (Instr.makeSlice t (.int kl (n : Int)) (.int kc (n : Int))).run P w = .ok (.slice (some ⟨w.heap.size, 0, none⟩) n n) (w.alloc (.cells (madeCells #[x, y, z] (n * 3)) e)) := by
  obtain ⟨i, hi, hzz⟩ := Option.map_eq_some_iff.1 hinfo
  simp only [Prod.mk.injEq] at hzz
  obtain ⟨hz, hs, hb⟩ := hzz
  have hb' : (i.bytes : Int) * (n : Int) ≤ 281474976710656 := by
    have h : ((i.bytes * n : Nat) : Int) ≤ 281474976710656 := by rw [hb]; omega
    rwa [Int.natCast_mul] at h
  have hr := run_make (P := P) w t e i _ ht hi hz kl kc n n (by omega) (Int.le_refl _) hb' (by omega)
  simp only [Int.toNat_natCast, hs] at hr
  exact hr

/-- Block b is a row of n triples. -/
def TripleRow (w : World) (b : Nat) (t : TypeId) (n : Nat) (f g h : Nat → Value) : Prop := w.rowIs b t (n * 3) (fun i => if i % 3 = 0 then f (i / 3) else if i % 3 = 1 then g (i / 3) else h (i / 3))
theorem tripleRow_made (w : World) (x y z : Value) (n : Nat) (t : TypeId) : TripleRow (w.alloc (.cells (madeCells #[x, y, z] (n * 3)) t)) w.heap.size t n (fun _ => x) (fun _ => y) (fun _ => z) := by
  have h := World.rowIs_alloc w (madeCells #[x, y, z] (n * 3)) t (fun i => if i % 3 = 0 then x else if i % 3 = 1 then y else z) (fun i hi => by
    rw [size_madeCells] at hi
    simp only [madeCells, Array.getElem?_map, List.size_toArray, List.length_cons, List.length_nil]
    rw [Array.getElem?_eq_getElem (by simpa using hi)]
    simp only [Array.getElem_range, Option.map_some, Option.some.injEq]
    have h2 : i % (0 + 1 + 1 + 1) = i % 3 := rfl
    rw [h2]
    have h3 : i % 3 = 0 ∨ i % 3 = 1 ∨ i % 3 = 2 := by omega
    rcases h3 with h | h | h <;> simp [h])
  rw [size_madeCells] at h
  exact h
theorem TripleRow.cells {w : World} {b : Nat} {t : TypeId} {n : Nat} {f g h : Nat → Value} (hr : TripleRow w b t n f g h) {k : Nat} (hk : k < n) :
    w.cell? ⟨b, k * 3, none⟩ = some (f k) ∧ w.cell? ⟨b, k * 3 + 1, none⟩ = some (g k) ∧ w.cell? ⟨b, k * 3 + 2, none⟩ = some (h k) := by
  have h1 := World.rowIs.cell hr (i := k * 3) (by omega)
  have h2 := World.rowIs.cell hr (i := k * 3 + 1) (by omega)
  have h3 := World.rowIs.cell hr (i := k * 3 + 2) (by omega)
  rw [h1, h2, h3]
  rw [if_pos (by omega), if_neg (by omega), if_pos (by omega), if_neg (by omega), if_neg (by omega)]
  have e1 : k * 3 / 3 = k := by omega
  have e2 : (k * 3 + 1) / 3 = k := by omega
  have e3 : (k * 3 + 2) / 3 = k := by omega
  rw [e1, e2, e3]
  exact ⟨rfl, rfl, rfl⟩
theorem TripleRow.set {w : World} {b : Nat} {t : TypeId} {n : Nat} {f g h : Nat → Value} (hr : TripleRow w b t n f g h) (k : Nat) (x y z : Value) :
    TripleRow (((w.setCell ⟨b, k * 3, none⟩ x).setCell ⟨b, k * 3 + 1, none⟩ y).setCell ⟨b, k * 3 + 2, none⟩ z) b t n (fun j => if j = k then x else f j) (fun j => if j = k then y else g j) (fun j => if j = k then z else h j) := by
  refine (((World.rowIs.set hr (k * 3) x).set (k * 3 + 1) y).set (k * 3 + 2) z).congr fun i hi => ?_
  dsimp only
  by_cases h0 : i = k * 3 + 2
  · rw [if_pos h0, if_neg (by omega), if_neg (by omega), if_pos (by omega)]
  · rw [if_neg h0]
    by_cases h1 : i = k * 3 + 1
    · rw [if_pos h1, if_neg (by omega), if_pos (by omega), if_pos (by omega)]
    · rw [if_neg h1]
      by_cases h2 : i = k * 3
      · rw [if_pos h2, if_pos (by omega), if_pos (by omega)]
      · rw [if_neg h2]
        by_cases h3 : i % 3 = 0
        · rw [if_pos h3, if_pos h3, if_neg (by omega)]
        · rw [if_neg h3, if_neg h3]
          by_cases h4 : i % 3 = 1
          · rw [if_pos h4, if_pos h4, if_neg (by omega)]
          · rw [if_neg h4, if_neg h4, if_neg (by omega)]
theorem TripleRow.congr {w : World} {b : Nat} {t : TypeId} {n : Nat} {f g h f' g' h' : Nat → Value} (hr : TripleRow w b t n f g h) (hf : ∀ i, i < n → f i = f' i) (hg : ∀ i, i < n → g i = g' i) (hh : ∀ i, i < n → h i = h' i) : TripleRow w b t n f' g' h' := by
  refine World.rowIs.congr hr fun i hi => ?_
  rw [hf _ (by omega), hg _ (by omega), hh _ (by omega)]
theorem TripleRow.at {w : World} {b : Nat} {t : TypeId} {n : Nat} {f g h : Nat → Value} (hr : TripleRow w b t n f g h) : TriplesAt w (some ⟨b, 0, none⟩) n f g h :=
  .inr ⟨b, 0, rfl, World.rowIs.lt hr, fun j hj => by rw [Nat.zero_add]; exact hr.cells hj⟩

theorem info26 : (Tryd.prog.info? 26).map (fun i => (i.zero, i.size, i.bytes)) = some (some (.agg #[.bool false, .string ByteArray.empty, .float .f64 0]), 3, 32) := by kernel_rfl

abbrev ValsAt (w : World) (a : Option Addr) (n : Nat) (tt : Nat → Bool) (xx : Nat → ByteArray) (ff : Nat → Nat) : Prop := TriplesAt w a n (fun j => .bool (tt j)) (fun j => .string (xx j)) (fun j => .float .f64 (ff j))
def CloneValsPost (w : World) (n : Nat) (tt : Nat → Bool) (xx : Nat → ByteArray) (ff : Nat → Nat) (e : Ending) (w' : World) : Prop :=
  ∃ a' c', e = .returned (.slice a' n c') ∧ Only nothing w w' ∧ ValsAt w' a' n tt xx ff

theorem pick {α : Type} {k j : Nat} {x d : α} {f : Nat → α} (hx : f k = x) : (if j = k then x else if j < k then f j else d) = if j < k + 1 then f j else d := by
  by_cases h1 : j = k
  · subst h1; rw [if_pos rfl, if_pos (by omega), hx]
  · rw [if_neg h1]
    by_cases h2 : j < k
    · rw [if_pos h2, if_pos (by omega)]
    · rw [if_neg h2, if_neg (by omega)]

theorem run_store_float {P : Program} (w : World) (a : Addr) (m : Mode) (k : FloatKind) (n : Nat) : (store a (.float k n) m).run P w = stored P w a (.float k n) m := run_store P w a _ m rfl
attribute [local go_sem] run_store_float

set_option maxHeartbeats 400000 in
theorem clone5 (a : Option Addr) (n c : Nat) (tt : Nat → Bool) (xx : Nat → ByteArray) (ff : Nat → Nat) (w : World) (hp : ValsAt w a n tt xx ff) (hle : n ≤ 1048576) (hnil : a = none → n = 0) :
    Calls Tryd.prog 5 #[.slice a n c] w (CloneValsPost w n tt xx ff) := by
  have hq := fun (w : World) (a : Option Addr) (n c : Nat) => Lib.run_eql_slice_nil (P := Tryd.prog) w 23 26 a n c 0 0 Tryd.underlying23
  cases a with
  | none =>
    obtain rfl := hnil rfl
    go_enter Tryd.func5, Tryd.ntmps5
    go_wp2
    go_ret
    exact ⟨none, 0, rfl, .refl _ _, .inl rfl⟩
  | some ad =>
    have hmk := run_make_triples (P := Tryd.prog) 23 26 _ _ _ 32 Tryd.underlying23 info26 .i64 .i64 n (by omega) (by omega)
    go_enter Tryd.func5, Tryd.ntmps5
    go_wp2
    go_loopw [4] (fun i wr => ∃ k : Nat, k ≤ n ∧ i = .int .i64 k ∧ Only nothing w wr ∧ TripleRow wr w.heap.size 26 n (fun j => if j < k then .bool (tt j) else .bool false) (fun j => if j < k then .string (xx j) else .string ByteArray.empty) (fun j => if j < k then .float .f64 (ff j) else .float .f64 0))
      (fun i _ => n - (intOf i).toNat)
    case atStart => exact ⟨0, Nat.zero_le _, rfl, (Only.refl _ _).alloc _, (tripleRow_made w _ _ _ n 26).congr (fun j _ => by simp) (fun j _ => by simp) (fun j _ => by simp)⟩
    case round =>
      obtain ⟨k, hk, rfl, ho, hrow⟩ := hrel
      by_cases hlt : k < n
      · obtain ⟨b, off, hab, hb, hc⟩ := hp.at (k := k) hlt
        obtain rfl : ad = ⟨b, off, none⟩ := Option.some.inj hab
        have hcell := (ho.cell (p := ⟨b, off + k * 3, none⟩) hb (fun h => h)).trans (hc k hlt).1
        have hcell2 := (ho.cell (p := ⟨b, off + k * 3 + 1, none⟩) hb (fun h => h)).trans (hc k hlt).2.1
        have hcell3 := (ho.cell (p := ⟨b, off + k * 3 + 2, none⟩) hb (fun h => h)).trans (hc k hlt).2.2
        obtain ⟨v0, hv0⟩ : ∃ v, wr.cell? ⟨w.heap.size, k * 3, none⟩ = some v := ⟨_, (hrow.cells hlt).1⟩
        obtain ⟨v1, hv1⟩ : ∃ v, wr.cell? ⟨w.heap.size, k * 3 + 1, none⟩ = some v := ⟨_, (hrow.cells hlt).2.1⟩
        obtain ⟨v2, hv2⟩ : ∃ v, wr.cell? ⟨w.heap.size, k * 3 + 2, none⟩ = some v := ⟨_, (hrow.cells hlt).2.2⟩
        have hf0 := World.rowIs.frozen hrow (k * 3)
        have hf1 := World.rowIs.frozen hrow (k * 3 + 1)
        have hf2 := World.rowIs.frozen hrow (k * 3 + 2)
        generalize h1 : tt k = x1 at hcell
        generalize h2 : xx k = x2 at hcell2
        generalize h3 : ff k = x3 at hcell3
        have hrow' := hrow.set k (.bool x1) (.string x2) (.float .f64 x3)
        have ho' := ((ho.setCell (p := ⟨w.heap.size, k * 3, none⟩) (fun h => absurd h (Nat.lt_irrefl _)) (.bool x1)).setCell (p := ⟨w.heap.size, k * 3 + 1, none⟩) (fun h => absurd h (Nat.lt_irrefl _)) (.string x2)).setCell (p := ⟨w.heap.size, k * 3 + 2, none⟩) (fun h => absurd h (Nat.lt_irrefl _)) (.float .f64 x3)
        have H1 : Hid (tt k = x1) := h1
        have H2 : Hid (xx k = x2) := h2
        have H3 : Hid (ff k = x3) := h3
        clear h1 h2 h3 hp hc hrow ho hnil
        go_wp2
        go_roundw
        case rel =>
          exact ⟨k + 1, by omega, by go_num, ho', hrow'.congr (fun j hj => pick (f := fun j => Value.bool (tt j)) (by rw [H1.out])) (fun j hj => pick (f := fun j => Value.string (xx j)) (by rw [H2.out])) (fun j hj => pick (f := fun j => Value.float .f64 (ff j)) (by rw [H3.out]))⟩
        case measure => simp [intOf]; omega
      · have hkn : k = n := by omega
        subst hkn
        go_wp2
        go_ret
        exact ⟨_, _, rfl, ho, (hrow.congr (fun j hj => if_pos hj) (fun j hj => if_pos hj) (fun j hj => if_pos hj)).at⟩

end Go.Proofs.Qxb6605849aDoor
