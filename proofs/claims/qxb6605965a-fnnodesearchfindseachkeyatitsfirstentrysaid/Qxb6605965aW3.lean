import Derived.Test.Qxb6605965aW2
namespace Go.Proofs.Qxb6605965a
open Go.RowKit Go.Maps

theorem run_make_pairs {P : Program} (t e : TypeId) (x y : Value) (bytes : Nat) (ht : P.underlying t = some (.slice e)) (hinfo : (P.info? e).map (fun i => (i.zero, i.size, i.bytes)) = some (some (.agg #[x, y]), 2, bytes))
    (kl kc : IntKind) (n : Nat) (hbytes : bytes * n ≤ 281474976710656) (h63 : n ≤ 9223372036854775807) (w : World) :
    (Instr.makeSlice t (.int kl (n : Int)) (.int kc (n : Int))).run P w = .ok (.slice (some ⟨w.heap.size, 0, none⟩) n n) (w.alloc (.cells (madeCells #[x, y] (n * 2)) e)) := by
  obtain ⟨i, hi, hzz⟩ := Option.map_eq_some_iff.1 hinfo
  simp only [Prod.mk.injEq] at hzz
  obtain ⟨hz, hs, hb⟩ := hzz
  have hb' : (i.bytes : Int) * (n : Int) ≤ 281474976710656 := by
    have h : ((i.bytes * n : Nat) : Int) ≤ 281474976710656 := by rw [hb]; omega
    rwa [Int.natCast_mul] at h
  have hr := run_make (P := P) w t e i _ ht hi hz kl kc n n (by omega) (Int.le_refl _) hb' (by omega)
  simp only [Int.toNat_natCast, hs] at hr
  exact hr


theorem row_made2 (w : World) (x : Value) (n : Nat) (t : TypeId) : (w.alloc (.cells (madeCells #[x, x] (n * 2)) t)).rowIs w.heap.size t (n * 2) (fun _ => x) := by
  have h := World.rowIs_alloc w (madeCells #[x, x] (n * 2)) t (fun _ => x) (fun i hi => by
    rw [size_madeCells] at hi
    simp only [madeCells, Array.getElem?_map, List.size_toArray, List.length_cons, List.length_nil]
    rw [Array.getElem?_eq_getElem (by simpa using hi)]
    simp only [Array.getElem_range, Option.map_some, Option.some.injEq]
    have h2 : i % (0 + 1 + 1) = i % 2 := rfl
    rw [h2]
    rcases Nat.mod_two_eq_zero_or_one i with h | h <;> simp [h])
  rw [size_madeCells] at h
  exact h

theorem info39 : (Try.prog.info? 39).map (fun i => (i.zero, i.size, i.bytes)) = some (some (.agg #[.slice none 0 0, .slice none 0 0]), 2, 48) := by kernel_rfl

def Small (e : Ent) : Prop := e.1.length ≤ 1048576 ∧ e.2.length ≤ 1048576
def EntsPost (w : World) (n : Nat) (es : List Ent) (e : Ending) (w' : World) : Prop :=
  ∃ a' c', e = .returned (.slice a' n c') ∧ Only nothing w w' ∧ EntsAt w' a' es
/-- What the copy holds behind its first k entries. -/
def Copied (w wr : World) (F : Nat → Value) (es : List Ent) (k : Nat) : Prop :=
  ∀ j, j < k → ∃ ka kc va vc, F (j * 2) = .slice ka (es.getD j d0).1.length kc ∧ F (j * 2 + 1) = .slice va (es.getD j d0).2.length vc ∧ BA wr ka (es.getD j d0).1 ∧ BA wr va (es.getD j d0).2 ∧ (ka = none → (es.getD j d0).1.length = 0) ∧ (va = none → (es.getD j d0).2.length = 0) ∧
    (∀ b o t, ka = some ⟨b, o, t⟩ → w.heap.size < b) ∧ (∀ b o t, va = some ⟨b, o, t⟩ → w.heap.size < b)
theorem Copied.only {w wr wr' : World} {F : Nat → Value} {es : List Ent} {k : Nat} (h : Copied w wr F es k) (ho : Only (fun i => i = w.heap.size) wr wr') : Copied w wr' F es k := fun j hj => by
  obtain ⟨ka, kc, va, vc, h1, h2, h3, h4, h5, h6, h7, h8⟩ := h j hj
  exact ⟨ka, kc, va, vc, h1, h2, h3.only ho (fun b o t e h => by have := h7 b o t e; omega), h4.only ho (fun b o t e h => by have := h8 b o t e; omega), h5, h6, h7, h8⟩

set_option maxHeartbeats 2000000 in
set_option maxRecDepth 100000 in
theorem clone12 (a : Option Addr) (n c : Nat) (es : List Ent) (w : World) (hs : EntsAt w a es) (hn : n = es.length) (hle : n ≤ 1048576) (hg : ∀ j, j < n → Small (es.getD j d0)) (hnil : a = none → n = 0) :
    Calls Try.prog 12 #[.slice a n c] w (EntsPost w n es) := by
  have Hn : Hid (n = es.length) := hn
  clear hn
  have hq := fun (w : World) (a : Option Addr) (n c : Nat) => Lib.run_eql_slice_nil (P := Try.prog) w 30 39 a n c 0 0 Try.underlying30
  cases a with
  | none =>
    obtain rfl := hnil rfl
    go_enter Try.func12, Try.ntmps12
    go_wp2_with fail
    go_ret
    exact ⟨none, 0, rfl, .refl _ _, .inl Hn.out.symm⟩
  | some ad =>
    have hmk := run_make_pairs (P := Try.prog) 30 39 _ _ 48 Try.underlying30 info39 .i64 .i64 n (by omega) (by omega)
    go_enter Try.func12, Try.ntmps12
    go_wp2_with fail
    go_loopw [4] (fun i wr => ∃ (k : Nat) (F : Nat → Value), k ≤ n ∧ i = .int .i64 k ∧ Only nothing w wr ∧ wr.rowIs w.heap.size 39 (n * 2) F ∧ Copied w wr F es k)
      (fun i _ => n - (intOf i).toNat)
    case atStart => exact ⟨0, _, Nat.zero_le _, rfl, (Only.refl _ _).alloc _, row_made2 w _ n 39, fun j hj => absurd hj (Nat.not_lt_zero _)⟩
    case round =>
      obtain ⟨k, F, hk, rfl, ho, hrow, HF⟩ := hrel
      by_cases hlt : k < n
      · obtain ⟨b, off, ka, kc, va, vc, hab, hb, hk0, hv0, hbk, hbv, hnk, hnv⟩ := hs.at (k := k) (by rw [← Hn.out]; exact hlt)
        obtain rfl : ad = ⟨b, off, none⟩ := Option.some.inj hab
        have hcell := (ho.cell (p := ⟨b, off + k * 2, none⟩) hb (fun h => h)).trans hk0
        have hgk := hg k hlt
        obtain ⟨K, HK⟩ : ∃ K, Hid (K = (es.getD k d0).1) := ⟨_, rfl⟩
        obtain ⟨V, HV⟩ : ∃ V, Hid (V = (es.getD k d0).2) := ⟨_, rfl⟩
        rw [← HK.out] at hcell hk0 hbk hnk
        rw [← HV.out] at hv0 hbv hnv
        obtain ⟨hg1, hg2⟩ := hgk
        rw [← HK.out] at hg1
        rw [← HV.out] at hg2
        obtain ⟨m, Hm⟩ : ∃ m, Hid (m = K.length) := ⟨_, rfl⟩
        obtain ⟨p, Hp⟩ : ∃ p, Hid (p = V.length) := ⟨_, rfl⟩
        rw [← Hm.out] at hcell hnk
        have hcv := (ho.cell (p := ⟨b, off + k * 2 + 1, none⟩) hb (fun h => h)).trans hv0
        rw [← Hp.out] at hcv hnv
        have hc18 := clone18 ka m kc K wr (hbk.only ho (fun _ _ _ _ h => h)) Hm.out (by rw [Hm.out]; exact hg1) hnk
        have hrl := hrow.lt
        have hbne : b ≠ w.heap.size := Nat.ne_of_lt hb
        have hbr : b < wr.heap.size := Nat.lt_of_lt_of_le hb ho.size
        clear hk0 hv0 hbk hs hg hnil hab
        go_wp2_with fail
        refine hc18.mono ?_
        rintro e w1 ⟨a1, c1, rfl, ho1, hp1, hf1, hn1⟩
        have hrow1 : w1.rowIs w.heap.size 39 (n * 2) F := World.rowIs.of_block hrow (ho1.block _ hrl (fun h => h))
        obtain ⟨v0, hv0⟩ : ∃ v, w1.cell? ⟨w.heap.size, k * 2, none⟩ = some v := ⟨_, hrow1.cell (by omega)⟩
        have hfz0 := hrow1.frozen (k * 2)
        rw [← Hm.out]
        have hrow2 := hrow1.set (k * 2) (.slice a1 m c1)
        have hoB := (Only.refl (fun i => i = w.heap.size) w1).setCell (p := ⟨w.heap.size, k * 2, none⟩) (fun _ => rfl) (.slice a1 m c1)
        have hoA : Only nothing w (w1.setCell ⟨w.heap.size, k * 2, none⟩ (.slice a1 m c1)) := (ho.andThen ho1 (fun i _ h => h)).andThen hoB (fun i hi h => absurd h (Nat.ne_of_lt hi))
        have hcv2 := ((ho1.mono (fun i h => h.elim)).trans hoB).cell (p := ⟨b, off + k * 2 + 1, none⟩) hbr hbne
        rw [hcv] at hcv2
        have hp2 := hp1.only hoB (fun b o t e h => by have := hf1 b o t e; omega)
        have HF2 := (HF.only (ho1.mono (fun i h => h.elim))).only hoB
        have hc18b := clone18 va p vc V (w1.setCell ⟨w.heap.size, k * 2, none⟩ (.slice a1 m c1)) (hbv.only hoA (fun _ _ _ _ h => h)) Hp.out (by rw [Hp.out]; exact hg2) hnv
        have hrl2 := hrow2.lt
        clear hc18 hrow hrow1 hcell hcv HF ho ho1 hoB hp1
        go_wp2_with fail
        refine hc18b.mono ?_
        rintro e w2 ⟨a2, c2, rfl, ho2, hp3, hf3, hn3⟩
        rw [← Hp.out]
        have hrow3 : w2.rowIs w.heap.size 39 (n * 2) _ := World.rowIs.of_block hrow2 (ho2.block _ hrl2 (fun h => h))
        obtain ⟨v1, hv1⟩ : ∃ v, w2.cell? ⟨w.heap.size, k * 2 + 1, none⟩ = some v := ⟨_, hrow3.cell (by omega)⟩
        have hfz1 := hrow3.frozen (k * 2 + 1)
        have hrow4 := hrow3.set (k * 2 + 1) (.slice a2 p c2)
        have hoC := (Only.refl (fun i => i = w.heap.size) w2).setCell (p := ⟨w.heap.size, k * 2 + 1, none⟩) (fun _ => rfl) (.slice a2 p c2)
        have hoD : Only nothing w (w2.setCell ⟨w.heap.size, k * 2 + 1, none⟩ (.slice a2 p c2)) := (hoA.andThen ho2 (fun i _ h => h)).andThen hoC (fun i hi h => absurd h (Nat.ne_of_lt hi))
        have hp4 := (hp2.only ho2 (fun _ _ _ _ h => h)).only hoC (fun b o t e h => by have := hf1 b o t e; omega)
        have hp5 := hp3.only hoC (fun b o t e h => by have := hf3 b o t e; have := hoA.size; omega)
        have HF3 := (HF2.only (ho2.mono (fun i h => h.elim))).only hoC
        have hsA := hoA.size
        have HF4 : Copied w (w2.setCell ⟨w.heap.size, k * 2 + 1, none⟩ (.slice a2 p c2)) (fun j => if j = k * 2 + 1 then .slice a2 p c2 else if j = k * 2 then .slice a1 m c1 else F j) es (k + 1) := fun j hj => by
          by_cases e : j = k
          · subst e
            dsimp only
            rw [if_neg (by omega), if_pos rfl, if_pos rfl, ← HK.out, ← HV.out, ← Hm.out, ← Hp.out]
            exact ⟨a1, c1, a2, c2, rfl, rfl, hp4, hp5, by rw [Hm.out]; exact hn1, by rw [Hp.out]; exact hn3, fun b o t e => by have := hf1 b o t e; omega, fun b o t e => by have := hf3 b o t e; omega⟩
          · dsimp only
            rw [if_neg (by omega), if_neg (by omega), if_neg (by omega), if_neg (by omega)]
            exact HF3 j (by omega)
        clear hrow2 hrow3 hc18b HF2 HF3 hp2 hp3 hp4 hp5 hoA hoC ho2 hcv2
        go_wp2_with fail
        go_roundw
        case rel => exact ⟨k + 1, _, by omega, by go_num, hoD, hrow4, HF4⟩
        case measure => simp [intOf]; omega
      · have hkn : k = n := by omega
        subst hkn
        go_wp2_with fail
        go_ret
        refine ⟨_, _, rfl, ho, .inr ⟨_, 0, rfl, hrow.lt, fun j hj => ?_⟩⟩
        have hj' : j < k := by rw [Hn.out]; exact hj
        obtain ⟨ka, kc, va, vc, h1, h2, h3, h4, h5, h6, -, -⟩ := HF j hj'
        exact ⟨ka, kc, va, vc, by rw [Nat.zero_add, hrow.cell (by omega), h1], by rw [Nat.zero_add, hrow.cell (by omega), h2], h3, h4, h5, h6⟩

end Go.Proofs.Qxb6605965a
