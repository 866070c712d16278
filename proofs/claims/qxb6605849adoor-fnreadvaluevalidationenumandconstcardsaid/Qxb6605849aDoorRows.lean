/-
  NARROWER THAN 'FOR EVERY INPUT', by the rows' own cells (each row's printed sentence says how): FnReadValueValidationEnumAndConst: laid.
  DERIVED. THE GIVEN ROWS OF THIS SEAT. 1 by the template 'for every input the law returns true; each argument reads behind the call as it read before'; 0 by the template 'total and deterministic' (their statements: Qxb6605849aDoorTotals.lean).
  GIVEN WITH THE SEED: the statements are not yours to turn. If you find one false, say at which input.
  Laid BY PROGRAM, IN A SANDBOX (cutbox-rows.mjs): the forced cells as the released guide's own fill.sh prints them over the translation f3f12e462b6facb5… (all of the seat's roots in one cut). By AI agents, Wed Nov 11 2026. No macro, syntax, notation, axiom, sorry.
-/
import Derived.Test.Qxb6605849aDoorChecked
import GoSem.Claim
import GoSem.ClaimJoined
import GoSem.ClaimMapViews
import Derived.JoinedTies
import Derived.KernelRfl
namespace Go.Proofs.Qxb6605849aDoor
/- THE CELL 'sum', in the pinned program and in every row, IS THE sha256 OF THE DUMP (.gsa) THAT Qxb6605849aDoorProg.lean LOADS. Nothing in Lean hashes anything: it is a label: what it is worth is what the hold of that sum in a sandbox is worth. -/
noncomputable def Tryd.pinned : Pinned := { name := "qxb6605849adoor", sum := "f3f12e462b6facb55578d47d89e970a5fe8d62336dbfd2d8b133a2241aa10f95", checked := Tryd.checked }
namespace Rows
def none {H : Type} : Left H := { results := [], args := [] }

/- WHAT THE LISTED PACKAGE-LEVEL VARIABLES READ AS WHEN THE CALL BEGINS. Each datum BY PROGRAM (the guide's laid-datum.mjs) off the statement by which the dump's own 'gosem.cut.vars' lays the variable. In a bare row this is a premise. The card (Qxb6605849aDoorCards.lean) ties it to the program's text. -/
def laid_example_com_eval4_eval4_jsonschema_typeNames {H : Type} : DataW H := .slice [.agg [.lit (.int .u8 1), .lit (.string [110, 117, 108, 108])], .agg [.lit (.int .u8 2), .lit (.string [98, 111, 111, 108, 101, 97, 110])], .agg [.lit (.int .u8 4), .lit (.string [110, 117, 109, 98, 101, 114])], .agg [.lit (.int .u8 8), .lit (.string [105, 110, 116, 101, 103, 101, 114])], .agg [.lit (.int .u8 16), .lit (.string [115, 116, 114, 105, 110, 103])], .agg [.lit (.int .u8 32), .lit (.string [97, 114, 114, 97, 121])], .agg [.lit (.int .u8 64), .lit (.string [111, 98, 106, 101, 99, 116])]] []

/-- 'zzlaws_jsonschema_b1.FnReadValueValidationEnumAndConst': WHATEVER THE INPUT: true; the input reads as it did. -/
def fnReadValueValidationEnumAndConstSpec : ChangeSpec := { name := "fnReadValueValidationEnumAndConst", vars := ["example.com/eval4/eval4/jsonschema.typeNames"], fn := fun _ => fun
  | [d1, d2, d3, d4, d5, d6, g1] => { results := [.lit (.bool true)], args := [d1, d2, d3, d4, d5, d6], vars := [g1] }
  | _ => none }
def fnReadValueValidationEnumAndConstRow : OpenClaim := { program := "qxb6605849adoor", sum := "f3f12e462b6facb55578d47d89e970a5fe8d62336dbfd2d8b133a2241aa10f95", func := "example.com/eval4/eval4/zzlaws_jsonschema_b1.FnReadValueValidationEnumAndConst", spec := "fnReadValueValidationEnumAndConst", named := ["example.com/eval4/eval4/jsonschema.typeNames"], plainKeys := false, apart := false, laid := [("example.com/eval4/eval4/jsonschema.typeNames", laid_example_com_eval4_eval4_jsonschema_typeNames)] }
def FnReadValueValidationEnumAndConstSaid : Prop := fnReadValueValidationEnumAndConstRow.holds Tryd.pinned (OpenSpec.ofChange fnReadValueValidationEnumAndConstSpec)

/-- ITS FALSE NEIGHBOUR: 'it returns false'. Refute it at one input. -/
def fnReadValueValidationEnumAndConstWrong : ChangeSpec := { name := "fnReadValueValidationEnumAndConst", vars := ["example.com/eval4/eval4/jsonschema.typeNames"], fn := fun _ => fun
  | [d1, d2, d3, d4, d5, d6, g1] => { results := [.lit (.bool false)], args := [d1, d2, d3, d4, d5, d6], vars := [g1] }
  | _ => none }
def FnReadValueValidationEnumAndConstWrongFalsely : Prop := fnReadValueValidationEnumAndConstRow.holds Tryd.pinned (OpenSpec.ofChange fnReadValueValidationEnumAndConstWrong)

end Rows
end Go.Proofs.Qxb6605849aDoor
