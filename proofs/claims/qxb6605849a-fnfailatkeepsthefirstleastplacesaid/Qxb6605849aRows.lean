/-
  No cell of these rows narrows 'for every input' (looked for: loops, veiled, ifaces, maps, wideKeys, modest, calm, conditions, laid).
  DERIVED. THE GIVEN ROWS OF THIS SEAT. 4 by the template 'for every input the law returns true; each argument reads behind the call as it read before'; 0 by the template 'total and deterministic' (their statements: Qxb6605849aTotals.lean).
  GIVEN WITH THE SEED: the statements are not yours to turn. If you find one false, say at which input.
  Laid BY PROGRAM, IN A SANDBOX (cutbox-rows.mjs): the forced cells as the released guide's own fill.sh prints them over the translation cd35d56e1167c392… (all of the seat's roots in one cut). By AI agents, Wed Nov 11 2026. No macro, syntax, notation, axiom, sorry.
-/
import Derived.Test.Qxb6605849aChecked
import GoSem.Claim
import GoSem.ClaimJoined
import GoSem.ClaimMapViews
import Derived.JoinedTies
import Derived.KernelRfl
namespace Go.Proofs.Qxb6605849a
/- THE CELL 'sum', in the pinned program and in every row, IS THE sha256 OF THE DUMP (.gsa) THAT Qxb6605849aProg.lean LOADS. Nothing in Lean hashes anything: it is a label: what it is worth is what the hold of that sum in a sandbox is worth. -/
noncomputable def Try.pinned : Pinned := { name := "qxb6605849a", sum := "cd35d56e1167c3923d111003030c5d0fd75eb4c887b3a0a588daee03b9e2c2c8", checked := Try.checked }
namespace Rows
def none {H : Type} : Left H := { results := [], args := [] }

/-- 'zzlaws_jsonschema_b1.FnEvaluatedKeyNotesExactlyTheKeys': WHATEVER THE INPUT: true; the input reads as it did. -/
def fnEvaluatedKeyNotesExactlyTheKeysSpec : ChangeSpec := { name := "fnEvaluatedKeyNotesExactlyTheKeys", fn := fun _ => fun
  | [d1, d2, d3] => { results := [.lit (.bool true)], args := [d1, d2, d3] }
  | _ => none }
def fnEvaluatedKeyNotesExactlyTheKeysRow : OpenClaim := { program := "qxb6605849a", sum := "cd35d56e1167c3923d111003030c5d0fd75eb4c887b3a0a588daee03b9e2c2c8", func := "example.com/eval4/eval4/zzlaws_jsonschema_b1.FnEvaluatedKeyNotesExactlyTheKeys", spec := "fnEvaluatedKeyNotesExactlyTheKeys", plainKeys := false, apart := false }
def FnEvaluatedKeyNotesExactlyTheKeysSaid : Prop := fnEvaluatedKeyNotesExactlyTheKeysRow.holds Try.pinned (OpenSpec.ofChange fnEvaluatedKeyNotesExactlyTheKeysSpec)

/-- ITS FALSE NEIGHBOUR: 'it returns false'. Refute it at one input. -/
def fnEvaluatedKeyNotesExactlyTheKeysWrong : ChangeSpec := { name := "fnEvaluatedKeyNotesExactlyTheKeys", fn := fun _ => fun
  | [d1, d2, d3] => { results := [.lit (.bool false)], args := [d1, d2, d3] }
  | _ => none }
def FnEvaluatedKeyNotesExactlyTheKeysWrongFalsely : Prop := fnEvaluatedKeyNotesExactlyTheKeysRow.holds Try.pinned (OpenSpec.ofChange fnEvaluatedKeyNotesExactlyTheKeysWrong)

/-- 'zzlaws_jsonschema_b1.FnEvaluatedKeyOverPriorMarks': WHATEVER THE INPUT: true; the input reads as it did. -/
def fnEvaluatedKeyOverPriorMarksSpec : ChangeSpec := { name := "fnEvaluatedKeyOverPriorMarks", fn := fun _ => fun
  | [d1, d2] => { results := [.lit (.bool true)], args := [d1, d2] }
  | _ => none }
def fnEvaluatedKeyOverPriorMarksRow : OpenClaim := { program := "qxb6605849a", sum := "cd35d56e1167c3923d111003030c5d0fd75eb4c887b3a0a588daee03b9e2c2c8", func := "example.com/eval4/eval4/zzlaws_jsonschema_b1.FnEvaluatedKeyOverPriorMarks", spec := "fnEvaluatedKeyOverPriorMarks", plainKeys := false, apart := false }
def FnEvaluatedKeyOverPriorMarksSaid : Prop := fnEvaluatedKeyOverPriorMarksRow.holds Try.pinned (OpenSpec.ofChange fnEvaluatedKeyOverPriorMarksSpec)

/-- ITS FALSE NEIGHBOUR: 'it returns false'. Refute it at one input. -/
def fnEvaluatedKeyOverPriorMarksWrong : ChangeSpec := { name := "fnEvaluatedKeyOverPriorMarks", fn := fun _ => fun
  | [d1, d2] => { results := [.lit (.bool false)], args := [d1, d2] }
  | _ => none }
def FnEvaluatedKeyOverPriorMarksWrongFalsely : Prop := fnEvaluatedKeyOverPriorMarksRow.holds Try.pinned (OpenSpec.ofChange fnEvaluatedKeyOverPriorMarksWrong)

/-- 'zzlaws_jsonschema_b1.FnFailAtKeepsTheFirstLeastPlace': WHATEVER THE INPUT: true; the input reads as it did. -/
def fnFailAtKeepsTheFirstLeastPlaceSpec : ChangeSpec := { name := "fnFailAtKeepsTheFirstLeastPlace", fn := fun _ => fun
  | [d] => { results := [.lit (.bool true)], args := [d] }
  | _ => none }
def fnFailAtKeepsTheFirstLeastPlaceRow : OpenClaim := { program := "qxb6605849a", sum := "cd35d56e1167c3923d111003030c5d0fd75eb4c887b3a0a588daee03b9e2c2c8", func := "example.com/eval4/eval4/zzlaws_jsonschema_b1.FnFailAtKeepsTheFirstLeastPlace", spec := "fnFailAtKeepsTheFirstLeastPlace", inPlace := ["internal/bytealg.abigen_runtime_cmpstring"], unfollowed := true, recurses := true, plainKeys := false, apart := false }
def FnFailAtKeepsTheFirstLeastPlaceSaid : Prop := fnFailAtKeepsTheFirstLeastPlaceRow.holds Try.pinned (OpenSpec.ofChange fnFailAtKeepsTheFirstLeastPlaceSpec)

/-- ITS FALSE NEIGHBOUR: 'it returns false'. Refute it at one input. -/
def fnFailAtKeepsTheFirstLeastPlaceWrong : ChangeSpec := { name := "fnFailAtKeepsTheFirstLeastPlace", fn := fun _ => fun
  | [d] => { results := [.lit (.bool false)], args := [d] }
  | _ => none }
def FnFailAtKeepsTheFirstLeastPlaceWrongFalsely : Prop := fnFailAtKeepsTheFirstLeastPlaceRow.holds Try.pinned (OpenSpec.ofChange fnFailAtKeepsTheFirstLeastPlaceWrong)

/-- 'zzlaws_jsonschema_b1.FnFailAtSnapshotsItsPlaces': WHATEVER THE INPUT: true; the input reads as it did. -/
def fnFailAtSnapshotsItsPlacesSpec : ChangeSpec := { name := "fnFailAtSnapshotsItsPlaces", fn := fun _ => fun
  | [d1, d2] => { results := [.lit (.bool true)], args := [d1, d2] }
  | _ => none }
def fnFailAtSnapshotsItsPlacesRow : OpenClaim := { program := "qxb6605849a", sum := "cd35d56e1167c3923d111003030c5d0fd75eb4c887b3a0a588daee03b9e2c2c8", func := "example.com/eval4/eval4/zzlaws_jsonschema_b1.FnFailAtSnapshotsItsPlaces", spec := "fnFailAtSnapshotsItsPlaces", inPlace := ["internal/bytealg.abigen_runtime_cmpstring"], unfollowed := true, recurses := true, plainKeys := false, apart := false }
def FnFailAtSnapshotsItsPlacesSaid : Prop := fnFailAtSnapshotsItsPlacesRow.holds Try.pinned (OpenSpec.ofChange fnFailAtSnapshotsItsPlacesSpec)

/-- ITS FALSE NEIGHBOUR: 'it returns false'. Refute it at one input. -/
def fnFailAtSnapshotsItsPlacesWrong : ChangeSpec := { name := "fnFailAtSnapshotsItsPlaces", fn := fun _ => fun
  | [d1, d2] => { results := [.lit (.bool false)], args := [d1, d2] }
  | _ => none }
def FnFailAtSnapshotsItsPlacesWrongFalsely : Prop := fnFailAtSnapshotsItsPlacesRow.holds Try.pinned (OpenSpec.ofChange fnFailAtSnapshotsItsPlacesWrong)

end Rows
end Go.Proofs.Qxb6605849a
