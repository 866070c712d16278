import Derived.Test.Qxb6605849aSplit
namespace Go.Proofs.Qxb6605849a
open Go.RowKit Go.Maps

theorem getD_set (ps : List Elt) (k : Nat) (e : Elt) (hk : k < ps.length) (j : Nat) : (ps.set k e).getD j dE = if j = k then e else ps.getD j dE := by
  by_cases h : j = k
  · subst h; simp [hk]
  · simp [h, Ne.symm h]

def SetAtPost (w : World) (B : Nat) (ps : List Elt) (st : Option (Int × List Elt)) (e : Ending) (w' : World) : Prop :=
  e = .returned (.tuple #[]) ∧ WalkSt w' B ps st ∧ Only (fun i => B < i) w w'

set_option maxHeartbeats 1000000 in
set_option maxRecDepth 100000 in
theorem setAt26 (B k : Nat) (x : Int) (s : ByteArray) (ps : List Elt) (st : Option (Int × List Elt)) (w : World) (hw : WalkSt w B ps st) (hk : k < ps.length) :
    Calls Try.prog 26 #[.pointer (some ⟨B, 0, none⟩), .int .i64 k, .int .i64 x, .string s] w (SetAtPost w B (ps.set k (x, s)) st) := by
  obtain ⟨h0, pa, pc, er, ea, en, ec, hwk, hpl, herr⟩ := hw
  obtain ⟨g5, -, -, f5, -, -⟩ := hwk.cells
  have Hk : Hid (k < ps.length) := hk
  rcases hpl with ⟨rfl, rfl⟩ | ⟨PB, rfl, hPB, hr⟩
  · exact absurd hk (Nat.not_lt_zero _)
  obtain ⟨v0, hv0⟩ : ∃ v, w.cell? ⟨PB, k * 2, none⟩ = some v := ⟨_, (hr.cells hk).1⟩
  obtain ⟨v1, hv1⟩ : ∃ v, w.cell? ⟨PB, k * 2 + 1, none⟩ = some v := ⟨_, (hr.cells hk).2⟩
  have hf0 := World.rowIs.frozen hr (k * 2)
  have hf1 := World.rowIs.frozen hr (k * 2 + 1)
  have hr' := hr.set k (.int .i64 x) (.string s)
  have ho' := ((Only.refl (fun i => B < i ∧ i = PB) w).setCell (p := ⟨PB, k * 2, none⟩) (fun _ => ⟨hPB, rfl⟩) (.int .i64 x)).setCell (p := ⟨PB, k * 2 + 1, none⟩) (fun _ => ⟨hPB, rfl⟩) (.string s)
  have hwk' := hwk.only ho' (fun h => absurd h.1 (Nat.lt_irrefl _))
  have hki : (k : Int) < (ps.length : Int) := by omega
  have HP : Hid (PairRow ((w.setCell ⟨PB, k * 2, none⟩ (.int .i64 x)).setCell ⟨PB, k * 2 + 1, none⟩ (.string s)) PB 79 (ps.set k (x, s)).length (fI (ps.set k (x, s))) (fS (ps.set k (x, s)))) := by
    have h := hr'.congr (f' := fI (ps.set k (x, s))) (g' := fS (ps.set k (x, s))) (fun j _ => by unfold fI; rw [getD_set ps k (x, s) hk]; split <;> rfl) (fun j _ => by unfold fS; rw [getD_set ps k (x, s) hk]; split <;> rfl)
    show PairRow ((w.setCell ⟨PB, k * 2, none⟩ (.int .i64 x)).setCell ⟨PB, k * 2 + 1, none⟩ (.string s)) PB 79 (ps.set k (x, s)).length _ _
    rw [List.length_set]
    exact h
  have HE : Hid (ErrIs ((w.setCell ⟨PB, k * 2, none⟩ (.int .i64 x)).setCell ⟨PB, k * 2 + 1, none⟩ (.string s)) B (some ⟨PB, 0, none⟩) er ea en st) := by
    rcases herr with h | ⟨id, qs, X, h1, h2, h3, h4, h5, h6, h7, h8, h9⟩
    · exact .inl h
    · have hXP : X ≠ PB := by
        rintro rfl
        have h := World.rowIs.lt hr
        obtain ⟨cs, hcs, _⟩ := hr
        rw [h3] at hcs
        simp at hcs
      exact .inr ⟨id, qs, X, h1, h2, (ho'.block X (Array.getElem?_eq_some_iff.1 h3).1 (fun h => hXP h.2)).trans h3, h4, h5, h6, PathAt.only h7 ho' (fun b o t e h => (h9 b o t e).2.2 PB 0 none rfl h.2), h8, fun b o t e => ⟨(h9 b o t e).1, Nat.lt_of_lt_of_le (h9 b o t e).2.1 ho'.size, (h9 b o t e).2.2⟩⟩
  have HO : Only (fun i => B < i) w ((w.setCell ⟨PB, k * 2, none⟩ (.int .i64 x)).setCell ⟨PB, k * 2 + 1, none⟩ (.string s)) := ho'.mono (fun i h => h.1)
  have hlen : (ps.set k (x, s)).length = ps.length := List.length_set
  have HF : Hid ((ps.set k (x, s)).length ≤ 1048576) := by show (ps.set k (x, s)).length ≤ 1048576; rw [hlen]; exact h0
  have HWK : Hid (WkIs ((w.setCell ⟨PB, k * 2, none⟩ (.int .i64 x)).setCell ⟨PB, k * 2 + 1, none⟩ (.string s)) B (.slice (some ⟨PB, 0, none⟩) (ps.set k (x, s)).length pc) er (.slice ea en ec)) := by
    show WkIs ((w.setCell ⟨PB, k * 2, none⟩ (.int .i64 x)).setCell ⟨PB, k * 2 + 1, none⟩ (.string s)) B (.slice (some ⟨PB, 0, none⟩) (ps.set k (x, s)).length pc) er (.slice ea en ec)
    rw [hlen]; exact hwk'
  have Hfin : Hid (WalkSt ((w.setCell ⟨PB, k * 2, none⟩ (.int .i64 x)).setCell ⟨PB, k * 2 + 1, none⟩ (.string s)) B (ps.set k (x, s)) st) := ⟨HF.out, some ⟨PB, 0, none⟩, pc, er, ea, en, ec, HWK.out, .inr ⟨PB, rfl, hPB, HP.out⟩, HE.out⟩
  clear HF HWK HP HE hlen hwk' ho' hr' hr herr hwk
  go_enter Try.func26, Try.ntmps26
  go_wp2
  go_end0
  exact ⟨rfl, Hfin.out, HO⟩

end Go.Proofs.Qxb6605849a
