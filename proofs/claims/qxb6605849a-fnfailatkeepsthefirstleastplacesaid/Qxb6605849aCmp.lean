import Derived.Test.Qxb6605849aPairs2
import Derived.Lib.Bytealg
import Derived.WalkLawsBesides
namespace Go.Proofs.Qxb6605849a
open Go.RowKit Go.Maps

abbrev Elt : Type := Int × ByteArray
abbrev dE : Elt := (0, ByteArray.empty)
def cE (a b : Elt) : Int := if a.1 < b.1 then -1 else if b.1 < a.1 then 1 else Lib.compareBytes a.2.data.toList b.2.data.toList
def cP : List Elt → List Elt → Int
  | [], [] => 0
  | [], _ :: _ => -1
  | _ :: _, [] => 1
  | x :: a, y :: b => if cE x y ≠ 0 then cE x y else cP a b

def cI (x y : Int) : Int := if x < y then -1 else if y < x then 1 else 0

theorem compare32 (x y : Int) (w : World) : Calls Try.prog 32 #[.int .i64 x, .int .i64 y] w fun e w' => e = .returned (.int .i64 (cI x y)) ∧ w' = w := by
  unfold cI
  go_enter Try.func32, Try.ntmps32
  go_wp2
  all_goals (go_ret; refine ⟨?_, rfl⟩; (repeat' split) <;> first | rfl | (exfalso; omega))

set_option maxHeartbeats 1000000 in
set_option maxRecDepth 100000 in
theorem compare35 (a b : ByteArray) (w : World) : Calls Try.prog 35 #[.string a, .string b] w fun e w' => e = .returned (.int .i64 (Lib.compareBytes a.data.toList b.data.toList)) ∧ w' = w := by
  go_enter Try.func35, Try.ntmps35
  go_wp2
  rw [run_callFunc_extern Try.func36 (by kernel_rfl) (by kernel_rfl) (by kernel_rfl) (e := Extern.BytealgCompare.compare) (by kernel_rfl), Lib.run_compareString]
  simp only [Result.andThen]
  rw [Oper.upon_value]
  go_wp2
  go_ret
  exact ⟨rfl, rfl⟩

theorem compare33 (a b : ByteArray) (w : World) : Calls Try.prog 33 #[.string a, .string b] w fun e w' => e = .returned (.int .i64 (Lib.compareBytes a.data.toList b.data.toList)) ∧ w' = w := by
  go_enter Try.func33, Try.ntmps33
  go_wp2_with fail
  refine (compare35 a b w).mono ?_
  rintro e w' ⟨rfl, h⟩
  obtain rfl := h.symm
  go_wp2
  go_ret
  exact ⟨rfl, rfl⟩

def RetPost (w : World) (v : Value) (e : Ending) (w' : World) : Prop := e = .returned v ∧ Only nothing w w'

set_option maxHeartbeats 400000 in
theorem places30 (i j : Int) (s t : ByteArray) (w : World) : Calls Try.prog 30 #[.agg #[.int .i64 i, .string s], .agg #[.int .i64 j, .string t]] w (RetPost w (.int .i64 (cE (i, s) (j, t)))) := by
  have ho := ((Only.refl nothing w).alloc (.cells #[.int .i64 i, .string s] 79)).alloc (.cells #[.int .i64 j, .string t] 79)
  by_cases h1 : i < j
  · have hc : Hid (cE (i, s) (j, t) = -1) := if_pos h1
    have hi : Hid (cI i j = -1) := if_pos h1
    go_enter Try.func30, Try.ntmps30
    go_wp2_with fail
    refine (compare32 i j _).mono ?_
    rintro e w' ⟨rfl, h⟩
    obtain rfl := h.symm
    rw [hi.out]
    go_wp2_with fail
    go_ret
    exact ⟨by rw [hc.out]; rfl, ho⟩
  · by_cases h2 : j < i
    · have hc : Hid (cE (i, s) (j, t) = 1) := by unfold Hid cE; rw [if_neg h1, if_pos h2]
      have hi : Hid (cI i j = 1) := by unfold Hid cI; rw [if_neg h1, if_pos h2]
      go_enter Try.func30, Try.ntmps30
      go_wp2_with fail
      refine (compare32 i j _).mono ?_
      rintro e w' ⟨rfl, h⟩
      obtain rfl := h.symm
      rw [hi.out]
      go_wp2_with fail
      go_ret
      exact ⟨by rw [hc.out]; rfl, ho⟩
    · have hc : Hid (cE (i, s) (j, t) = Lib.compareBytes s.data.toList t.data.toList) := by unfold Hid cE; rw [if_neg h1, if_neg h2]
      have hi : Hid (cI i j = 0) := by unfold Hid cI; rw [if_neg h1, if_neg h2]
      go_enter Try.func30, Try.ntmps30
      go_wp2_with fail
      refine (compare32 i j _).mono ?_
      rintro e w' ⟨rfl, h⟩
      obtain rfl := h.symm
      rw [hi.out]
      go_wp2_with fail
      refine (compare33 s t _).mono ?_
      rintro e w' ⟨rfl, h⟩
      obtain rfl := h.symm
      go_wp2_with fail
      go_ret
      exact ⟨by rw [hc.out]; rfl, ho⟩

end Go.Proofs.Qxb6605849a
