import Derived.Test.Qxb6605965aOpen
import Derived.Test.Qxb6605965aMain6
namespace Go.Proofs.Qxb6605965a
open Go.ChangeShapes Go.WideShapes Go.ChangeAt Go.RowKit

/-- The key argument, opened. -/
theorem open_key {H : Type} {enc : TypeId × Value → H} {W : World} {a0 : Option Addr} {len cap : Nat} {d : DataW H} {p : List MemPlace} (h0 : DataW.Trod enc Try.prog W 0 (fun _ => true) true 23 (.slice a0 len cap) d p)
    (hlt : ∀ x ∈ p, x.block < W.heap.size) : ∃ K : List UInt8, BA W a0 K ∧ len = K.length ∧ (a0 = none → len = 0) := by
  obtain ⟨fuel, hf⟩ := h0
  obtain ⟨l, a, c, e, h1, h2, _⟩ := open_bytes1 (v := .slice a0 len cap) (by simpa [Value.cells] using hf) hlt
  simp only [Value.slice.injEq] at e
  obtain ⟨rfl, rfl, rfl⟩ := e
  exact ⟨l, h1, rfl, h2⟩

set_option maxRecDepth 100000 in
theorem bound_lifted (os : Os) (started : os.Started) (H : Type) (enc : TypeId × Value → H) :
    ReturnsInHanded {} Try.checked os 6 .any (Rows.fnNodeSearchIsLowerBoundSpec.pre6 enc Try.prog Try.f6 Rows.fnNodeSearchIsLowerBoundRow.domain false) (Rows.fnNodeSearchIsLowerBoundSpec.post enc Try.prog Try.f6 false true false false) := by
  refine returnsInHanded_of_change (C := Try.checked) own started (by kernel_rfl) Try.func6
    (ChangeSpec.witness6 (enc := enc) (C := Try.checked) false ⟨#[], #[.slice none 0 0, .slice none 0 0], []⟩ 8 (by kernel_rfl) (by kernel_rfl) (by kernel_rfl) (by kernel_rfl)) ?_
  intro W base args ds gs before hval0 hW _ _
  have hval : ∀ (j : Nat) t v, Try.f6.params[j]? = some t → args[j]? = some v → Value.okWide Try.prog W .any base t v := hval0
  have hW' := hW
  obtain ⟨p, q, hA0, hV, rfl, hfz, hnd⟩ := hW
  have hA : DataW.TrodAll enc Try.prog W 0 (fun _ => true) true Try.f6.params.toList args.toList ds p := hA0
  rw [Try.params6] at hA hval
  obtain ⟨v0, v1, d0, d1, p0, p1, rfl, rfl, rfl, h0, h1⟩ := trodAll_two hA
  obtain ⟨rfl, rfl⟩ := trodVars_none hV
  obtain ⟨a0, len, cap, rfl⟩ := okWide_slice Try.underlying30 (hval 0 30 v0 rfl rfl)
  obtain ⟨a1, len1, cap1, rfl⟩ := okWide_slice Try.underlying23 (hval 1 23 v1 rfl rfl)
  clear hA0 hval0
  simp only [List.append_nil] at hW'
  have hlt0 : ∀ x ∈ p0, x.block < W.heap.size := fun x hx => by simpa using hW'.lt x (List.mem_append_left _ hx)
  have hlt1 : ∀ x ∈ p1, x.block < W.heap.size := fun x hx => by simpa using hW'.lt x (List.mem_append_right _ hx)
  obtain ⟨es, hs, hn, hnil⟩ := open_ents h0 hlt0
  obtain ⟨K, hK, hkn, hknil⟩ := open_key h1 hlt1
  refine (main6 a0 a1 len cap len1 cap1 es K W hs hn hnil hK hkn hknil).mono fun e W' ⟨he, ho⟩ => ?_
  subst he
  have hb : Below W.heap.size W W' := ho.below (Nat.le_refl _) (fun _ _ h => h)
  have hargs := trodAll_mk2 (Below.trod laidOut (by kernel_rfl) (of_decide_eq_true (by kernel_rfl)) h0 hb hlt0) (Below.trod laidOut (by kernel_rfl) (of_decide_eq_true (by kernel_rfl)) h1 hb hlt1)
  exact ⟨_, rfl, _, _, _, [], p0 ++ p1, [], hW', trodAll_mk1 (shut_bool Try.underlying4 true), hargs, rfl, hb.frame _, fun h => by cases h⟩

theorem bound_holds : Rows.FnNodeSearchIsLowerBoundSaid :=
  OpenClaim.holds_of_wide 6 Try.f6 rfl rfl rfl rfl rfl rfl rfl ⟨rfl, rfl, rfl, rfl, rfl⟩ rfl rfl rfl rfl rfl (by kernel_rfl) Try.func6 (by kernel_rfl)
    (of_decide_eq_true (by kernel_rfl)) (by unfold Func.isWrapper; first | (rw [if_pos (by decide +kernel)]; kernel_rfl) | (rw [if_neg (by decide +kernel)]; exact ⟨rfl, rfl⟩))
    (fun os started H enc _ => bound_lifted os started H enc)
end Go.Proofs.Qxb6605965a
