import Derived.Test.Qxb6605849aSnapProof
import Derived.Test.Qxb6605849aKeeps
import Derived.Deep.Slices
namespace Go.Proofs.Qxb6605849a
open Go.ChangeShapes Go.WideShapes Go.ChangeAt Go.RowKit

theorem cells39 : Try.prog.cellsOf 39 = 1 := by kernel_rfl

/-- One path inside the [][]FailPlace. -/
theorem open_path1 {H : Type} {enc : TypeId × Value → H} {W : World} {fuel : Nat} {v : Value} {d0 : DataW H} {p : List MemPlace} (hf : DataW.trod enc Try.prog W 0 (fun _ => true) true fuel 39 [v] = some (d0, p))
    (hlt : ∀ x ∈ p, x.block < W.heap.size) : ∃ (ps : List Elt) (a : Option Addr) (c : Nat), v = .slice a ps.length c ∧ PathAt W a ps ∧ (∀ e ∈ ps, e.2.size ≤ 9223372036854775807) ∧ (a = none → ps.length = 0) := by
  obtain ⟨a, len, cap, rfl⟩ : ∃ a len cap, v = .slice a len cap := by
    rcases Deep.open_slice_pairs Try.underlying39 Try.underlying41 cells41 rfl rfl cells3 cells9 hf with ⟨hcs, _⟩ | ⟨a, len', cap', m, n, V0, V1, D0, D1, P0, P1, hcs, _⟩
    · exact ⟨none, 0, 0, by simpa using hcs⟩
    · exact ⟨some a, len', cap', by simpa using hcs⟩
  obtain ⟨ps, h1, h2, h3, h4⟩ := open_path (enc := enc) (a0 := a) (len := len) (cap := cap) (d0 := d0) (p := p) ⟨fuel, by simpa [Value.cells] using hf⟩ hlt
  subst h2
  exact ⟨ps, a, cap, rfl, h1, h3, h4⟩

/-- The [][]FailPlace argument, opened. -/
theorem open_steps {H : Type} {enc : TypeId × Value → H} {W : World} {a0 : Option Addr} {len cap : Nat} {d0 : DataW H} {p : List MemPlace} (h0 : DataW.Trod enc Try.prog W 0 (fun _ => true) true 37 (.slice a0 len cap) d0 p)
    (hlt : ∀ x ∈ p, x.block < W.heap.size) : ∃ ss : List (List Elt), StepsAt W a0 ss ∧ len = ss.length ∧ (∀ j, j < len → ∀ e ∈ ss.getD j [], e.2.size ≤ 9223372036854775807) ∧ (a0 = none → len = 0) := by
  obtain ⟨fuel, hf⟩ := h0
  rcases Deep.open_slice1 Try.underlying37 cells39 hf with ⟨hcs, hx⟩ | ⟨a, len', cap', m, n, V, D, Pl, hcs, _, hl, hm, hmm, hx, hcell⟩
  · simp [Value.cells] at hcs
    obtain ⟨rfl, rfl, rfl⟩ := hcs
    exact ⟨[], .inl rfl, rfl, fun j hj => absurd hj (Nat.not_lt_zero _), fun _ => rfl⟩
  · simp [Value.cells] at hcs
    obtain ⟨rfl, rfl, rfl⟩ := hcs
    simp only [Prod.mk.injEq] at hx
    obtain ⟨rfl, rfl⟩ := hx
    simp only [if_true] at hmm
    subst hmm
    have each : ∀ i, i < m → ∃ ps : List Elt, ∃ (a : Option Addr) (c : Nat), V i = .slice a ps.length c ∧ PathAt W a ps ∧ (∀ e ∈ ps, e.2.size ≤ 9223372036854775807) ∧ (a = none → ps.length = 0) := fun i hi => by
      obtain ⟨_, t0⟩ := hcell i hi
      exact open_path1 t0 (fun x hx => hlt x (List.mem_append_right _ (List.mem_flatMap.2 ⟨i, List.mem_range.2 hi, hx⟩)))
    obtain ⟨q, hq⟩ := Deep.choose_lt each
    have hget : ∀ j, j < len → ((List.range len).map q).getD j [] = q j := fun j hj => by simp [List.getD, hj]
    refine ⟨(List.range len).map q, ?_, by simp, ?_, fun h => by cases h⟩
    · by_cases hl0 : len = 0
      · exact .inl (by simp [hl0])
      · obtain ⟨b, off, spot⟩ := a
        have hspot : spot = none := by simpa [Addr.add] using World.cell?_spot (hcell 0 (by omega)).1
        subst hspot
        have hbW : b < W.heap.size := hlt (.cell b off) (List.mem_append_left _ (MemPlace.mem_row.2 ⟨0, by omega, by simp⟩))
        refine .inr ⟨b, off, rfl, hbW, fun j hj => ?_⟩
        have hj' : j < len := by simpa using hj
        obtain ⟨c0, _⟩ := hcell j (by omega)
        obtain ⟨a1, c1, e0, e1, _, e3⟩ := hq j (by omega)
        rw [add_plain] at c0
        rw [hget j hj']
        exact ⟨a1, c1, by rw [c0, e0], e1, e3⟩
    · intro j hj e he
      rw [hget j hj] at he
      obtain ⟨_, _, _, _, h, _⟩ := hq j (by omega)
      exact h e he

set_option maxRecDepth 100000 in
theorem keeps_lifted (os : Os) (started : os.Started) (H : Type) (enc : TypeId × Value → H) :
    ReturnsInHanded {} Try.checked os 5 .any (Rows.fnFailAtKeepsTheFirstLeastPlaceSpec.pre6 enc Try.prog Try.f5 Rows.fnFailAtKeepsTheFirstLeastPlaceRow.domain false) (Rows.fnFailAtKeepsTheFirstLeastPlaceSpec.post enc Try.prog Try.f5 false true false false) := by
  refine returnsInHanded_of_change (C := Try.checked) own started (by kernel_rfl) Try.func5
    (ChangeSpec.witness6 (enc := enc) (C := Try.checked) false ⟨#[], #[.slice none 0 0], []⟩ 8 (by kernel_rfl) (by kernel_rfl) (by kernel_rfl) (by kernel_rfl)) ?_
  intro W base args ds gs before hval0 hW _ _
  have hval : ∀ (j : Nat) t v, Try.f5.params[j]? = some t → args[j]? = some v → Value.okWide Try.prog W .any base t v := hval0
  have hW' := hW
  obtain ⟨p, q, hA0, hV, rfl, hfz, hnd⟩ := hW
  have hA : DataW.TrodAll enc Try.prog W 0 (fun _ => true) true Try.f5.params.toList args.toList ds p := hA0
  rw [Try.params5] at hA hval
  obtain ⟨v0, d0, rfl, rfl, h0⟩ := trodAll_one hA
  obtain ⟨rfl, rfl⟩ := trodVars_none hV
  obtain ⟨a0, len, cap, rfl⟩ := okWide_slice Try.underlying37 (hval 0 37 v0 rfl rfl)
  clear hA0 hval0
  simp only [List.append_nil] at hW'
  have hlt0 : ∀ x ∈ p, x.block < W.heap.size := fun x hx => by simpa using hW'.lt x hx
  obtain ⟨ss, hs, hn, hz, hnil⟩ := open_steps h0 hlt0
  refine (keeps5 a0 len cap ss W hs hn hz hnil).mono fun e W' ⟨he, ho⟩ => ?_
  subst he
  have hb : Below W.heap.size W W' := ho.below (Nat.le_refl _) (fun _ _ h => h)
  have hargs := trodAll_mk1 (Below.trod laidOut (by kernel_rfl) (of_decide_eq_true (by kernel_rfl)) h0 hb hlt0)
  exact ⟨_, rfl, _, _, _, [], p, [], hW', trodAll_mk1 (shut_bool Try.underlying4 true), hargs, rfl, hb.frame _, fun h => by cases h⟩

theorem keeps_holds : Rows.FnFailAtKeepsTheFirstLeastPlaceSaid :=
  OpenClaim.holds_of_wide 5 Try.f5 rfl rfl rfl rfl rfl rfl rfl ⟨rfl, rfl, rfl, rfl, rfl⟩ rfl rfl rfl rfl rfl (by kernel_rfl) Try.func5 (by kernel_rfl)
    (of_decide_eq_true (by kernel_rfl)) (by unfold Func.isWrapper; first | (rw [if_pos (by decide +kernel)]; kernel_rfl) | (rw [if_neg (by decide +kernel)]; exact ⟨rfl, rfl⟩))
    (fun os started H enc _ => keeps_lifted os started H enc)
end Go.Proofs.Qxb6605849a
