import Derived.Test.Qxb6605965aRows
import Derived.Test.Qxb6605965aBase
import Derived.Test.Qxb6605965aW2
import Derived.ProofKit
import Derived.Deep.SlicePairs
import Derived.Deep.Slices
namespace Go.Proofs.Qxb6605965a
open Go.ChangeShapes Go.WideShapes Go.ChangeAt Go.RowKit

theorem own : ownKnob Try.prog.godebug = none := by kernel_rfl
theorem laidOut : laidOutB Try.prog = true := by kernel_rfl
theorem cells39 : Try.prog.cellsOf 39 = 2 := by kernel_rfl
theorem cells23 : Try.prog.cellsOf 23 = 1 := by kernel_rfl
theorem cells5 : Try.prog.cellsOf 5 = 1 := by kernel_rfl

/-- A []byte, opened. -/
theorem open_bytes1 {H : Type} {enc : TypeId × Value → H} {W : World} {fuel : Nat} {v : Value} {x : DataW H × List MemPlace} (hf : DataW.trod enc Try.prog W 0 (fun _ => true) true fuel 23 [v] = some x)
    (hlt : ∀ y ∈ x.2, y.block < W.heap.size) : ∃ (l : List UInt8) (a : Option Addr) (c : Nat), v = .slice a l.length c ∧ BA W a l ∧ (a = none → l.length = 0) ∧ l.length ≤ maxLen := by
  rcases Deep.open_slice1 Try.underlying23 cells5 hf with ⟨hcs, hx⟩ | ⟨a, len, cap, m, n, V, D, Pl, hcs, _, hl, hm, hmm, hx, hcell⟩
  · exact ⟨[], none, 0, by simpa using hcs, .inl rfl, fun _ => rfl, by simp⟩
  · subst hx
    simp only [if_true] at hmm
    subst hmm
    have each : ∀ i, i < m → ∃ b : UInt8, V i = .int .u8 b.toNat := fun i hi => by
      obtain ⟨_, t0⟩ := hcell i hi
      obtain ⟨z, h4, _, hw⟩ := DataW.trod_int Try.underlying5 t0
      have hw' : 0 ≤ z ∧ z ≤ 255 := by
        simp only [Lit.wf, Bool.and_eq_true, decide_eq_true_eq] at hw
        exact hw
      refine ⟨z.toNat.toUInt8, ?_⟩
      have e : V i = .int .u8 z := by simpa using h4
      rw [e, Lib.toUInt8_toNat (by omega), Int.toNat_of_nonneg hw'.1]
    obtain ⟨q, hq⟩ := Deep.choose_lt each
    refine ⟨(List.range len).map q, some a, m, by simpa using hcs, ?_, (fun h => by cases h), by simp; omega⟩
    by_cases hl0 : len = 0
    · exact .inl (by simp [hl0])
    · obtain ⟨b, off, spot⟩ := a
      have hspot : spot = none := by simpa [Addr.add] using World.cell?_spot (hcell 0 (by omega)).1
      subst hspot
      have hbW : b < W.heap.size := hlt (.cell b off) (List.mem_append_left _ (MemPlace.mem_row.2 ⟨0, by omega, by simp⟩))
      refine .inr ⟨b, off, rfl, hbW, fun j hj => ?_⟩
      have hj' : j < len := by simpa using hj
      obtain ⟨c0, _⟩ := hcell j (by omega)
      rw [addr_add] at c0
      rw [c0, hq j (by omega)]
      simp [List.getD, hj']

/-- The []ZEntry argument, opened. -/
theorem open_ents {H : Type} {enc : TypeId × Value → H} {W : World} {a0 : Option Addr} {len cap : Nat} {d : DataW H} {p : List MemPlace} (h0 : DataW.Trod enc Try.prog W 0 (fun _ => true) true 30 (.slice a0 len cap) d p)
    (hlt : ∀ x ∈ p, x.block < W.heap.size) : ∃ es : List Ent, EntsAt W a0 es ∧ len = es.length ∧ (a0 = none → len = 0) := by
  obtain ⟨fuel, hf⟩ := h0
  rcases Deep.open_slice_pairs Try.underlying30 Try.underlying39 cells39 rfl rfl cells23 cells23 hf with ⟨hcs, hx⟩ | ⟨a, len', cap', m, n, V0, V1, D0, D1, P0, P1, hcs, _, hl, hm, hmm, hx, hcell⟩
  · simp [Value.cells] at hcs
    obtain ⟨rfl, rfl, rfl⟩ := hcs
    exact ⟨[], .inl rfl, rfl, fun _ => rfl⟩
  · simp [Value.cells] at hcs
    obtain ⟨rfl, rfl, rfl⟩ := hcs
    simp only [Prod.mk.injEq] at hx
    obtain ⟨rfl, rfl⟩ := hx
    simp only [if_true] at hmm
    subst hmm
    have each : ∀ i, i < m → ∃ e : Ent, ∃ ka kc va vc, V0 i = .slice ka e.1.length kc ∧ V1 i = .slice va e.2.length vc ∧ BA W ka e.1 ∧ BA W va e.2 ∧ (ka = none → e.1.length = 0) ∧ (va = none → e.2.length = 0) := fun i hi => by
      obtain ⟨_, _, t0, t1⟩ := hcell i hi
      have hP0 : ∀ y ∈ P0 i, y.block < W.heap.size := fun y hy => hlt y (List.mem_append_right _ (List.mem_flatMap.2 ⟨i, List.mem_range.2 hi, List.mem_append_left _ hy⟩))
      have hP1 : ∀ y ∈ P1 i, y.block < W.heap.size := fun y hy => hlt y (List.mem_append_right _ (List.mem_flatMap.2 ⟨i, List.mem_range.2 hi, List.mem_append_right _ hy⟩))
      obtain ⟨l, ka, kc, e1, e2, e3, _⟩ := open_bytes1 t0 hP0
      obtain ⟨l', va, vc, e4, e5, e6, _⟩ := open_bytes1 t1 hP1
      exact ⟨(l, l'), ka, kc, va, vc, e1, e4, e2, e5, e3, e6⟩
    obtain ⟨q, hq⟩ := Deep.choose_lt each
    have hget : ∀ j, j < len → ((List.range len).map q).getD j d0 = q j := fun j hj => by simp [List.getD, hj]
    refine ⟨(List.range len).map q, ?_, by simp, fun h => by cases h⟩
    by_cases hl0 : len = 0
    · exact .inl (by simp [hl0])
    · obtain ⟨b, off, spot⟩ := a
      have hspot : spot = none := by simpa [Addr.add] using World.cell?_spot (hcell 0 (by omega)).1
      subst hspot
      have hbW : b < W.heap.size := hlt (.cell b off) (List.mem_append_left _ (MemPlace.mem_row.2 ⟨0, by omega, by simp⟩))
      refine .inr ⟨b, off, rfl, hbW, fun j hj => ?_⟩
      have hj' : j < len := by simpa using hj
      obtain ⟨c0, c1, _, _⟩ := hcell j (by omega)
      obtain ⟨ka, kc, va, vc, e0, e1, e2, e3, e4, e5⟩ := hq j (by omega)
      rw [addr_add] at c0 c1
      rw [hget j hj']
      exact ⟨ka, kc, va, vc, by rw [c0, e0], by rw [Nat.add_assoc, c1, e1], e2, e3, e4, e5⟩

end Go.Proofs.Qxb6605965a
