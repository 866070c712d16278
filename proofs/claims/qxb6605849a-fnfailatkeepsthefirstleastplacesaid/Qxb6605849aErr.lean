import Derived.Test.Qxb6605849aFail
namespace Go.Proofs.Qxb6605849a
open Go.RowKit Go.Maps

set_option maxHeartbeats 1000000 in
set_option maxRecDepth 100000 in
theorem fail19 (B : Nat) (id : Int) (ps : List Elt) (st : Option (Int × List Elt)) (w : World) (hw : WalkSt w B ps st) :
    Calls Try.prog 19 #[.pointer (some ⟨B, 0, none⟩), .int .i64 id] w (SetPost w B ps (upd st id ps)) := by
  have hl := hw.lt
  have ho := (Only.refl nothing w).alloc (.cells #[.string ByteArray.empty, .int .i64 id] 83)
  have hc := fail28 B w.heap.size id ps st _ (hw.only ho (fun _ _ h => h)) (by show (w.heap.push _)[w.heap.size]? = _; simp) hl
  clear hw
  go_enter Try.func19, Try.ntmps19
  go_wp2_with fail
  refine hc.mono ?_
  rintro e w' ⟨rfl, hw', ho'⟩
  go_wp2_with fail
  go_end0
  exact ⟨rfl, hw', (ho.mono (fun i h => h.elim)).trans ho'⟩

def ErrPost (w : World) (st : Option (Int × List Elt)) (e : Ending) (w' : World) : Prop :=
  e = .returned (.tuple #[.bool st.isSome, .int .i64 ((st.map (·.1)).getD 0)]) ∧ Only nothing w w'

theorem assert81 (v : Value) (w : World) : (Instr.typeAssert (.iface 81 v) 70 81 true).run Try.prog w = .ok (.tuple #[v, .bool true]) w := by kernel_rfl

set_option maxHeartbeats 1000000 in
set_option maxRecDepth 100000 in
theorem err20 (B : Nat) (ps : List Elt) (st : Option (Int × List Elt)) (w : World) (hw : WalkSt w B ps st) :
    Calls Try.prog 20 #[.pointer (some ⟨B, 0, none⟩)] w (ErrPost w st) := by
  obtain ⟨h0, pa, pc, er, ea, en, ec, hwk, hpl, herr⟩ := hw
  obtain ⟨-, g9, -, -, f9, -⟩ := hwk.cells
  have hq1 := eqNil
  rcases herr with ⟨rfl, rfl, -, -⟩ | ⟨id0, qs, X0, rfl, rfl, hX, -, -, -, -, -, -⟩
  · go_enter Try.func20, Try.ntmps20
    go_wp2_with fail
    go_ret2
    exact ⟨rfl, Only.refl _ w⟩
  · have hq2 := eqErr (.pointer (some ⟨X0, 0, none⟩))
    have hq3 := assert81 (.pointer (some ⟨X0, 0, none⟩))
    have hc : w.cell? ⟨X0, 1, none⟩ = some (.int .i64 id0) := by simp [World.cell?, hX]
    clear hX hpl hwk
    go_enter Try.func20, Try.ntmps20
    go_wp2_with fail
    go_quiet (fail)
    go_wp2_with fail
    go_ret2
    exact ⟨rfl, (Only.refl _ w).drewN _⟩

end Go.Proofs.Qxb6605849a
