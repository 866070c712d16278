import Derived.Test.Qxb6605849aRows
import Derived.Test.Qxb6605849aNotesWalk
import Derived.ProofKit
namespace Go.Proofs.Qxb6605849a
open Go.ChangeShapes Go.WideShapes Go.ChangeAt Go.RowKit

theorem own : ownKnob Try.prog.godebug = none := by kernel_rfl
theorem laidOut : laidOutB Try.prog = true := by kernel_rfl
theorem cells9 : Try.prog.cellsOf 9 = 1 := by kernel_rfl

/-- A []string argument, opened. -/
theorem open_keys {H : Type} {enc : TypeId × Value → H} {W : World} {a0 : Option Addr} {len cap : Nat} {d0 : DataW H} {p : List MemPlace} (h0 : DataW.Trod enc Try.prog W 0 (fun _ => true) true 22 (.slice a0 len cap) d0 p)
    (hlt : ∀ x ∈ p, x.block < W.heap.size) : ∃ ss : List ByteArray, StrsAt W a0 ss ∧ len = ss.length ∧ (∀ s ∈ ss, s.size ≤ 9223372036854775807) ∧ (a0 = none → len = 0) := by
  obtain ⟨fuel, hf⟩ := h0
  rcases open_strings Try.underlying22 Try.underlying9 cells9 hf with ⟨hcs, hx⟩ | ⟨a, len', cap', ss, hcs, _, hl, hm, hz, hx, hcell, hws⟩
  · simp [Value.cells] at hcs
    obtain ⟨rfl, rfl, rfl⟩ := hcs
    exact ⟨[], .inl rfl, rfl, by simp, fun _ => rfl⟩
  · simp [Value.cells] at hcs
    obtain ⟨rfl, rfl, rfl⟩ := hcs
    simp only [Prod.mk.injEq] at hx
    obtain ⟨rfl, rfl⟩ := hx
    simp only [if_true] at hz
    refine ⟨ss.take len, ?_, by simp; omega, fun s hs => hws s (List.mem_of_mem_take hs), fun h => by cases h⟩
    by_cases hl0 : len = 0
    · exact .inl (by simp [hl0])
    · obtain ⟨b, off, spot⟩ := a
      have hspot : spot = none := by simpa [Addr.add] using World.cell?_spot (hcell 0 (by omega))
      subst hspot
      have hbW : b < W.heap.size := hlt (.cell b off) (MemPlace.mem_row.2 ⟨0, by omega, by simp⟩)
      refine .inr ⟨b, off, rfl, hbW, fun j hj => ?_⟩
      have hj' : j < len ∧ j < ss.length := by simp at hj; omega
      rw [← add_plain, hcell j hj'.2]
      simp [List.getD, hj'.1]

set_option maxRecDepth 100000 in
theorem notes_lifted (os : Os) (started : os.Started) (H : Type) (enc : TypeId × Value → H) :
    ReturnsInHanded {} Try.checked os 3 .any (Rows.fnEvaluatedKeyNotesExactlyTheKeysSpec.pre6 enc Try.prog Try.f3 Rows.fnEvaluatedKeyNotesExactlyTheKeysRow.domain false) (Rows.fnEvaluatedKeyNotesExactlyTheKeysSpec.post enc Try.prog Try.f3 false true false false) := by
  refine returnsInHanded_of_change (C := Try.checked) own started (by kernel_rfl) Try.func3
    (ChangeSpec.witness6 (enc := enc) (C := Try.checked) false ⟨#[], #[.slice none 0 0, .bool false, .int .i64 0], []⟩ 8 (by kernel_rfl) (by kernel_rfl) (by kernel_rfl) (by kernel_rfl)) ?_
  intro W base args ds gs before hval0 hW _ _
  have hval : ∀ (j : Nat) t v, Try.f3.params[j]? = some t → args[j]? = some v → Value.okWide Try.prog W .any base t v := hval0
  have hW' := hW
  obtain ⟨p, q, hA0, hV, rfl, hfz, hnd⟩ := hW
  have hA : DataW.TrodAll enc Try.prog W 0 (fun _ => true) true Try.f3.params.toList args.toList ds p := hA0
  rw [Try.params3] at hA hval
  obtain ⟨v0, v1, v2, d0, d1, d2, p0, p1, p2, rfl, rfl, rfl, h0, h1, h2⟩ := trodAll_three hA
  obtain ⟨rfl, rfl⟩ := trodVars_none hV
  obtain ⟨a0, len, cap, rfl⟩ := okWide_slice Try.underlying22 (hval 0 22 v0 rfl rfl)
  obtain ⟨x, rfl, rfl, rfl⟩ := open_bool Try.underlying4 (hval 1 4 v1 rfl rfl) h1
  obtain ⟨u, rfl, rfl, rfl, wu⟩ := open_int Try.underlying3 (hval 2 3 v2 rfl rfl) h2
  clear hA0 hval0
  simp only [List.append_nil] at hW'
  have hlt : ∀ x ∈ p0, x.block < W.heap.size := fun x hx => by simpa using hW'.lt x hx
  obtain ⟨ss, hs, hn, hsz, hnil⟩ := open_keys h0 hlt
  refine (notes3 a0 len cap ss x u W hs hn hsz hnil).mono fun e W' ⟨he, ho⟩ => ?_
  subst he
  have hb : Below W.heap.size W W' := ho.below (Nat.le_refl _) (fun _ _ h => h)
  have hargs := trodAll_mk3 (Below.trod laidOut (by kernel_rfl) (of_decide_eq_true (by kernel_rfl)) h0 hb hlt) (shut_bool (enc := enc) (w := W') (base := 0) (spare := fun b => decide (b < W.heap.size)) (held := true) Try.underlying4 x) (shut_int Try.underlying3 wu)
  simp only [List.append_nil] at hargs
  exact ⟨_, rfl, _, _, _, [], p0, [], hW', trodAll_mk1 (shut_bool Try.underlying4 true), hargs, rfl, hb.frame _, fun h => by cases h⟩

theorem notes_holds : Rows.FnEvaluatedKeyNotesExactlyTheKeysSaid :=
  OpenClaim.holds_of_wide 3 Try.f3 rfl rfl rfl rfl rfl rfl rfl ⟨rfl, rfl, rfl, rfl, rfl⟩ rfl rfl rfl rfl rfl (by kernel_rfl) Try.func3 (by kernel_rfl)
    (of_decide_eq_true (by kernel_rfl)) (by unfold Func.isWrapper; first | (rw [if_pos (by decide +kernel)]; kernel_rfl) | (rw [if_neg (by decide +kernel)]; exact ⟨rfl, rfl⟩))
    (fun os started H enc _ => notes_lifted os started H enc)
end Go.Proofs.Qxb6605849a
