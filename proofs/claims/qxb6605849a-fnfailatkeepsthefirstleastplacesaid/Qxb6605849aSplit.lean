import Derived.Test.Qxb6605849aWalkSt
namespace Go.Proofs.Qxb6605849a
open Go.RowKit Go.Maps

theorem info3 : (Try.prog.info? 3).map (fun i => (i.zero, i.size, i.bytes)) = some (some (.int .i64 0), 1, 8) := by kernel_rfl

theorem pick {α : Type} {k j : Nat} {x d : α} {f : Nat → α} (hx : f k = x) : (if j = k then x else if j < k then f j else d) = if j < k + 1 then f j else d := by
  by_cases h1 : j = k
  · subst h1; rw [if_pos rfl, if_pos (by omega), hx]
  · rw [if_neg h1]
    by_cases h2 : j < k
    · rw [if_pos h2, if_pos (by omega)]
    · rw [if_neg h2, if_neg (by omega)]

def SplitPost (w : World) (ps : List Elt) (n : Nat) (e : Ending) (w' : World) : Prop :=
  ∃ a1 c1 a2 c2, e = .returned (.tuple #[.slice a1 n c1, .slice a2 n c2]) ∧ Only nothing w w' ∧ RowAt w' a1 n (fI ps) ∧ RowAt w' a2 n (fS ps)

set_option maxHeartbeats 1000000 in
theorem split17 (a : Option Addr) (n c : Nat) (ps : List Elt) (w : World) (hp : PathAt w a ps) (hn : n = ps.length) (hnb : n ≤ 1048576) :
    Calls Try.prog 17 #[.slice a n c] w (SplitPost w ps n) := by
  have Hn : Hid (n = ps.length) := hn
  unfold PathAt at hp
  rw [← Hn.out] at hp
  clear hn
  have hmk1 := run_make_row' (P := Try.prog) 45 3 _ 8 Try.underlying45 info3 rfl .i64 .i64 n (by omega) (by omega)
  have hmk2 := run_make_row' (P := Try.prog) 22 9 _ 16 Try.underlying22 info9 rfl .i64 .i64 n (by omega) (by omega)
  go_enter Try.func17, Try.ntmps17
  go_wp2
  go_loopw [6] (fun i wr => ∃ k : Nat, k ≤ n ∧ i = .int .i64 k ∧ Only nothing w wr ∧ wr.rowIs w.heap.size 3 n (fun j => if j < k then fI ps j else .int .i64 0) ∧ wr.rowIs (w.heap.size + 1) 9 n (fun j => if j < k then fS ps j else .string ByteArray.empty))
    (fun i _ => n - (intOf i).toNat)
  case atStart =>
    refine ⟨0, Nat.zero_le _, rfl, ((Only.refl _ _).alloc _).alloc _, ((World.rowIs_made w _ n 3).alloc _).congr (fun j _ => by simp), ?_⟩
    have h := World.rowIs_made (w.alloc (.cells (madeCells #[.int .i64 0] n) 3)) (.string ByteArray.empty) n 9
    have e : (w.alloc (.cells (madeCells #[.int .i64 0] n) 3)).heap.size = w.heap.size + 1 := by simp
    rw [e] at h
    exact h.congr (fun j _ => by simp)
  case round =>
    obtain ⟨k, hk, rfl, ho, hr1, hr2⟩ := hrel
    by_cases hlt : k < n
    · obtain ⟨b, off, rfl, hb, hc⟩ := hp.at (k := k) hlt
      have hcell := (ho.cell (p := ⟨b, off + k * 2, none⟩) hb (fun h => h)).trans (hc k hlt).1
      have hcell2 := (ho.cell (p := ⟨b, off + k * 2 + 1, none⟩) hb (fun h => h)).trans (hc k hlt).2
      obtain ⟨v0, hv0⟩ : ∃ v, wr.cell? ⟨w.heap.size, k, none⟩ = some v := ⟨_, hr1.cell hlt⟩
      obtain ⟨v1, hv1⟩ : ∃ v, wr.cell? ⟨w.heap.size + 1, k, none⟩ = some v := ⟨_, hr2.cell hlt⟩
      have hf0 := hr1.frozen k
      have hf1 := hr2.frozen k
      have hbne : b ≠ w.heap.size := Nat.ne_of_lt hb
      have HI : Hid (fI ps k = .int .i64 (ps.getD k dE).1) := rfl
      have HS : Hid (fS ps k = .string (ps.getD k dE).2) := rfl
      generalize (ps.getD k dE).1 = x at hcell HI
      generalize (ps.getD k dE).2 = s at hcell2 HS
      have hr1' := (hr1.set k (.int .i64 x)).setOther (a := ⟨w.heap.size + 1, k, none⟩) (by simp) (.string s)
      have hr2' := (hr2.setOther (a := ⟨w.heap.size, k, none⟩) (by simp) (.int .i64 x)).set k (.string s)
      have ho' := (ho.setCell (p := ⟨w.heap.size, k, none⟩) (fun h => absurd h (Nat.lt_irrefl _)) (.int .i64 x)).setCell (p := ⟨w.heap.size + 1, k, none⟩) (fun h => absurd h (by simp)) (.string s)
      clear hp hc hr1 hr2 ho
      go_wp2
      go_roundw
      case rel => exact ⟨k + 1, by omega, by go_num, ho', hr1'.congr (fun j _ => pick HI.out), hr2'.congr (fun j _ => pick HS.out)⟩
      case measure => simp [intOf]; omega
    · have hkn : k = n := by omega
      subst hkn
      go_wp2
      go_ret2
      refine ⟨_, _, _, _, rfl, ho, .inr ⟨_, 0, rfl, hr1.lt, fun j hj => ?_⟩, .inr ⟨_, 0, rfl, hr2.lt, fun j hj => ?_⟩⟩
      · rw [Nat.zero_add, hr1.cell hj, if_pos hj]
      · rw [Nat.zero_add, hr2.cell hj, if_pos hj]

def SetPost (w : World) (B : Nat) (ps : List Elt) (st : Option (Int × List Elt)) (e : Ending) (w' : World) : Prop :=
  e = .returned (.tuple #[]) ∧ WalkSt w' B ps st ∧ Only (fun i => i = B) w w'

set_option maxHeartbeats 1000000 in
set_option maxRecDepth 100000 in
theorem set18 (B : Nat) (a1 a2 : Option Addr) (n c1 c2 : Nat) (ps ps0 : List Elt) (st : Option (Int × List Elt)) (w : World) (hw : WalkSt w B ps0 st) (h1 : RowAt w a1 n (fI ps)) (h2 : RowAt w a2 n (fS ps)) (hn : n = ps.length) (hnb : n ≤ 1048576) :
    Calls Try.prog 18 #[.pointer (some ⟨B, 0, none⟩), .slice a1 n c1, .slice a2 n c2] w (SetPost w B ps st) := by
  have Hn : Hid (n = ps.length) := hn
  clear hn
  have hmk := run_make_pairs (P := Try.prog) 65 79 _ _ 24 Try.underlying65 info79 .i64 .i64 n (by omega) (by omega)
  go_enter Try.func18, Try.ntmps18
  go_wp2
  go_loopw [13] (fun i wr => ∃ k : Nat, k ≤ n ∧ i = .int .i64 k ∧ Only nothing w wr ∧ PairRow wr w.heap.size 79 n (fun j => if j < k then fI ps j else .int .i64 0) (fun j => if j < k then fS ps j else .string ByteArray.empty))
    (fun i _ => n - (intOf i).toNat)
  case atStart => exact ⟨0, Nat.zero_le _, rfl, (Only.refl _ _).alloc _, (pairRow_made w _ _ n 79).congr (fun j _ => by simp) (fun j _ => by simp)⟩
  case round =>
    obtain ⟨k, hk, rfl, ho, hr⟩ := hrel
    by_cases hlt : k < n
    · obtain ⟨b1, o1, rfl, hb1, hc1⟩ := h1.at (k := k) hlt
      obtain ⟨b2, o2, rfl, hb2, hc2⟩ := h2.at (k := k) hlt
      have hcell1 := (ho.cell (p := ⟨b1, o1 + k, none⟩) hb1 (fun h => h)).trans (hc1 k hlt)
      have hcell2 := (ho.cell (p := ⟨b2, o2 + k, none⟩) hb2 (fun h => h)).trans (hc2 k hlt)
      obtain ⟨v0, hv0⟩ : ∃ v, wr.cell? ⟨w.heap.size, k * 2, none⟩ = some v := ⟨_, (hr.cells hlt).1⟩
      obtain ⟨v1, hv1⟩ : ∃ v, wr.cell? ⟨w.heap.size, k * 2 + 1, none⟩ = some v := ⟨_, (hr.cells hlt).2⟩
      have hf0 := World.rowIs.frozen hr (k * 2)
      have hf1 := World.rowIs.frozen hr (k * 2 + 1)
      have HI : Hid (fI ps k = .int .i64 (ps.getD k dE).1) := rfl
      have HS : Hid (fS ps k = .string (ps.getD k dE).2) := rfl
      rw [HI.out] at hcell1
      rw [HS.out] at hcell2
      generalize (ps.getD k dE).1 = x at hcell1 HI
      generalize (ps.getD k dE).2 = s at hcell2 HS
      have hr' := hr.set k (.int .i64 x) (.string s)
      have ho' := (ho.setCell (p := ⟨w.heap.size, k * 2, none⟩) (fun h => absurd h (Nat.lt_irrefl _)) (.int .i64 x)).setCell (p := ⟨w.heap.size, k * 2 + 1, none⟩) (fun h => absurd h (Nat.lt_irrefl _)) (.string s)
      have hki : (k : Int) < (n : Int) := by omega
      clear h1 h2 hc1 hc2 hr ho hw
      go_wp2
      go_region
      all_goals go_wp2
      go_roundw
      case rel => exact ⟨k + 1, by omega, by go_num, ho'.drew, (show PairRow _ _ _ _ _ _ from hr').congr (fun j _ => pick HI.out) (fun j _ => pick HS.out)⟩
      case measure => simp [intOf]; omega
    · have hkn : k = n := by omega
      subst hkn
      have hr2 : PairRow wr w.heap.size 79 k (fI ps) (fS ps) := hr.congr (fun j hj => if_pos hj) (fun j hj => if_pos hj)
      have hBl := hw.lt
      obtain ⟨h0, pa, pc, er, ea, en, ec, hwk0, hpl, herr0⟩ := hw
      have hwk := hwk0.only ho (fun h => h)
      obtain ⟨g5, -, -, f5, -, -⟩ := hwk.cells
      have hwk' := hwk.setP (.slice (some ⟨w.heap.size, 0, none⟩) k k)
      have ho2 := (Only.refl (fun i => i = B) wr).setCell (p := ⟨B, 5, none⟩) (fun _ => rfl) (.slice (some ⟨w.heap.size, 0, none⟩) k k)
      have HE : Hid (ErrIs (wr.setCell ⟨B, 5, none⟩ (.slice (some ⟨w.heap.size, 0, none⟩) k k)) B (some ⟨w.heap.size, 0, none⟩) er ea en st) :=
        ((herr0.only ho (fun _ _ h => h)).only ho2 (fun b hb => by omega)).newPa (fun b o t e b' o' t' e' => by
          cases e'
          exact Nat.ne_of_lt (herr0.ealt e))
      have HO : Only (fun i => i = B) w (wr.setCell ⟨B, 5, none⟩ (.slice (some ⟨w.heap.size, 0, none⟩) k k)) := (ho.mono (fun i h => h.elim)).andThen ho2 (fun i _ h => h)
      clear hpl h1 h2 hr herr0 hwk0
      go_wp2
      go_end0
      refine ⟨rfl, ⟨by rw [← Hn.out]; exact hnb, some ⟨w.heap.size, 0, none⟩, k, er, ea, en, ec, by rw [← Hn.out]; exact hwk', .inr ⟨w.heap.size, rfl, hBl, ?_⟩, HE.out⟩, HO⟩
      rw [← Hn.out]
      exact World.rowIs.of_block hr2 (ho2.block _ (World.rowIs.lt hr2) (by omega))

end Go.Proofs.Qxb6605849a
