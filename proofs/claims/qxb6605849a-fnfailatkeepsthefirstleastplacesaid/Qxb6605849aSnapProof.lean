import Derived.Test.Qxb6605849aNotesProof
import Derived.Test.Qxb6605849aSnap
import Derived.Deep.SlicePairs
namespace Go.Proofs.Qxb6605849a
open Go.ChangeShapes Go.WideShapes Go.ChangeAt Go.RowKit

theorem cells41 : Try.prog.cellsOf 41 = 2 := by kernel_rfl
theorem cells3 : Try.prog.cellsOf 3 = 1 := by kernel_rfl

/-- A []FailPlace, opened. -/
theorem open_path {H : Type} {enc : TypeId × Value → H} {W : World} {a0 : Option Addr} {len cap : Nat} {d0 : DataW H} {p : List MemPlace} (h0 : DataW.Trod enc Try.prog W 0 (fun _ => true) true 39 (.slice a0 len cap) d0 p)
    (hlt : ∀ x ∈ p, x.block < W.heap.size) : ∃ ps : List Elt, PathAt W a0 ps ∧ len = ps.length ∧ (∀ e ∈ ps, e.2.size ≤ 9223372036854775807) ∧ (a0 = none → len = 0) := by
  obtain ⟨fuel, hf⟩ := h0
  rcases Deep.open_slice_pairs Try.underlying39 Try.underlying41 cells41 rfl rfl cells3 cells9 hf with ⟨hcs, hx⟩ | ⟨a, len', cap', m, n, V0, V1, D0, D1, P0, P1, hcs, _, hl, hm, hmm, hx, hcell⟩
  · simp [Value.cells] at hcs
    obtain ⟨rfl, rfl, rfl⟩ := hcs
    exact ⟨[], .inl rfl, rfl, by simp, fun _ => rfl⟩
  · simp [Value.cells] at hcs
    obtain ⟨rfl, rfl, rfl⟩ := hcs
    simp only [Prod.mk.injEq] at hx
    obtain ⟨rfl, rfl⟩ := hx
    simp only [if_true] at hmm
    subst hmm
    have each : ∀ i, i < m → ∃ q : Elt, V0 i = .int .i64 q.1 ∧ V1 i = .string q.2 ∧ q.2.size ≤ maxLen := fun i hi => by
      obtain ⟨_, _, t0, t1⟩ := hcell i hi
      obtain ⟨v, h4, _⟩ := DataW.trod_int Try.underlying3 t0
      obtain ⟨s, h1, h2, h3⟩ := DataW.trod_string Try.underlying9 t1
      exact ⟨(v, s), by simpa using h4, by simpa using h1, h3⟩
    obtain ⟨q, hq⟩ := Deep.choose_lt each
    refine ⟨(List.range len).map q, ?_, by simp, ?_, fun h => by cases h⟩
    · by_cases hl0 : len = 0
      · exact .inl (by simp [hl0])
      · obtain ⟨b, off, spot⟩ := a
        have hspot : spot = none := by simpa [Addr.add] using World.cell?_spot (hcell 0 (by omega)).1
        subst hspot
        have hbW : b < W.heap.size := hlt (.cell b off) (List.mem_append_left _ (MemPlace.mem_row.2 ⟨0, by omega, by simp⟩))
        refine .inr ⟨b, off, rfl, hbW, fun j hj => ?_⟩
        have hj' : j < len := by simpa using hj
        obtain ⟨c0, c1, _, _⟩ := hcell j (by omega)
        obtain ⟨e0, e1, _⟩ := hq j (by omega)
        rw [add_plain] at c0 c1
        rw [c0, ← Nat.add_assoc] at *
        rw [c1, e0, e1]
        simp [List.getD, hj']
    · intro e he
      obtain ⟨i, hi, rfl⟩ := List.mem_map.1 he
      exact (hq i (by have := List.mem_range.1 hi; omega)).2.2

set_option maxRecDepth 100000 in
theorem snap_lifted (os : Os) (started : os.Started) (H : Type) (enc : TypeId × Value → H) :
    ReturnsInHanded {} Try.checked os 6 .any (Rows.fnFailAtSnapshotsItsPlacesSpec.pre6 enc Try.prog Try.f6 Rows.fnFailAtSnapshotsItsPlacesRow.domain false) (Rows.fnFailAtSnapshotsItsPlacesSpec.post enc Try.prog Try.f6 false true false false) := by
  refine returnsInHanded_of_change (C := Try.checked) own started (by kernel_rfl) Try.func6
    (ChangeSpec.witness6 (enc := enc) (C := Try.checked) false ⟨#[], #[.slice none 0 0, .slice none 0 0], []⟩ 8 (by kernel_rfl) (by kernel_rfl) (by kernel_rfl) (by kernel_rfl)) ?_
  intro W base args ds gs before hval0 hW _ _
  have hval : ∀ (j : Nat) t v, Try.f6.params[j]? = some t → args[j]? = some v → Value.okWide Try.prog W .any base t v := hval0
  have hW' := hW
  obtain ⟨p, q, hA0, hV, rfl, hfz, hnd⟩ := hW
  have hA : DataW.TrodAll enc Try.prog W 0 (fun _ => true) true Try.f6.params.toList args.toList ds p := hA0
  rw [Try.params6] at hA hval
  obtain ⟨v0, v1, d0, d1, p0, p1, rfl, rfl, rfl, h0, h1⟩ := trodAll_two hA
  obtain ⟨rfl, rfl⟩ := trodVars_none hV
  obtain ⟨a0, len, cap, rfl⟩ := okWide_slice Try.underlying39 (hval 0 39 v0 rfl rfl)
  obtain ⟨a1, len1, cap1, rfl⟩ := okWide_slice Try.underlying39 (hval 1 39 v1 rfl rfl)
  clear hA0 hval0
  simp only [List.append_nil] at hW'
  have hlt0 : ∀ x ∈ p0, x.block < W.heap.size := fun x hx => by simpa using hW'.lt x (List.mem_append_left _ hx)
  have hlt1 : ∀ x ∈ p1, x.block < W.heap.size := fun x hx => by simpa using hW'.lt x (List.mem_append_right _ hx)
  obtain ⟨ps, hp, hn, hkz, hnil⟩ := open_path h0 hlt0
  obtain ⟨qs, hs, hn1, hsz, hnil1⟩ := open_path h1 hlt1
  refine (snap6 a0 a1 len cap len1 cap1 ps qs W hp hs hn hn1 hkz hsz hnil hnil1).mono fun e W' ⟨he, ho⟩ => ?_
  subst he
  have hb : Below W.heap.size W W' := ho.below (Nat.le_refl _) (fun _ _ h => h)
  have hargs := trodAll_mk2 (Below.trod laidOut (by kernel_rfl) (of_decide_eq_true (by kernel_rfl)) h0 hb hlt0) (Below.trod laidOut (by kernel_rfl) (of_decide_eq_true (by kernel_rfl)) h1 hb hlt1)
  exact ⟨_, rfl, _, _, _, [], p0 ++ p1, [], hW', trodAll_mk1 (shut_bool Try.underlying4 true), hargs, rfl, hb.frame _, fun h => by cases h⟩

theorem snap_holds : Rows.FnFailAtSnapshotsItsPlacesSaid :=
  OpenClaim.holds_of_wide 6 Try.f6 rfl rfl rfl rfl rfl rfl rfl ⟨rfl, rfl, rfl, rfl, rfl⟩ rfl rfl rfl rfl rfl (by kernel_rfl) Try.func6 (by kernel_rfl)
    (of_decide_eq_true (by kernel_rfl)) (by unfold Func.isWrapper; first | (rw [if_pos (by decide +kernel)]; kernel_rfl) | (rw [if_neg (by decide +kernel)]; exact ⟨rfl, rfl⟩))
    (fun os started H enc _ => snap_lifted os started H enc)
end Go.Proofs.Qxb6605849a
