/-
  No cell of these rows narrows 'for every input' (looked for: loops, veiled, ifaces, maps, wideKeys, modest, calm, conditions, laid).
  DERIVED. THE GIVEN ROWS OF THIS SEAT. 5 by the template 'for every input the law returns true; each argument reads behind the call as it read before'; 0 by the template 'total and deterministic' (their statements: Qxb6605965aTotals.lean).
  GIVEN WITH THE SEED: the statements are not yours to turn. If you find one false, say at which input.
  Laid BY PROGRAM, IN A SANDBOX (cutbox-rows.mjs): the forced cells as the released guide's own fill.sh prints them over the translation 877cc11b09c2828f… (all of the seat's roots in one cut). By AI agents, Wed Nov 11 2026. No macro, syntax, notation, axiom, sorry.
-/
import Derived.Test.Qxb6605965aChecked
import GoSem.Claim
import GoSem.ClaimJoined
import GoSem.ClaimMapViews
import Derived.JoinedTies
import Derived.KernelRfl
namespace Go.Proofs.Qxb6605965a
/- THE CELL 'sum', in the pinned program and in every row, IS THE sha256 OF THE DUMP (.gsa) THAT Qxb6605965aProg.lean LOADS. Nothing in Lean hashes anything: it is a label: what it is worth is what the hold of that sum in a sandbox is worth. -/
noncomputable def Try.pinned : Pinned := { name := "qxb6605965a", sum := "877cc11b09c2828f0efd684383986b59bac52d6e0d936dd523b6c287c92615bd", checked := Try.checked }
namespace Rows
def none {H : Type} : Left H := { results := [], args := [] }

/-- 'zzlaws_internal_pages_b1.FnPageRefIsLittleEndianBytes': WHATEVER THE INPUT: true; the input reads as it did. -/
def fnPageRefIsLittleEndianBytesSpec : ChangeSpec := { name := "fnPageRefIsLittleEndianBytes", fn := fun _ => fun
  | [d] => { results := [.lit (.bool true)], args := [d] }
  | _ => none }
def fnPageRefIsLittleEndianBytesRow : OpenClaim := { program := "qxb6605965a", sum := "877cc11b09c2828f0efd684383986b59bac52d6e0d936dd523b6c287c92615bd", func := "example.com/undoweave/undoweave/zzlaws_internal_pages_b1.FnPageRefIsLittleEndianBytes", spec := "fnPageRefIsLittleEndianBytes", named := ["encoding/binary.LittleEndian"], apart := false }
def FnPageRefIsLittleEndianBytesSaid : Prop := fnPageRefIsLittleEndianBytesRow.holds Try.pinned (OpenSpec.ofChange fnPageRefIsLittleEndianBytesSpec)

/-- ITS FALSE NEIGHBOUR: 'it returns false'. Refute it at one input. -/
def fnPageRefIsLittleEndianBytesWrong : ChangeSpec := { name := "fnPageRefIsLittleEndianBytes", fn := fun _ => fun
  | [d] => { results := [.lit (.bool false)], args := [d] }
  | _ => none }
def FnPageRefIsLittleEndianBytesWrongFalsely : Prop := fnPageRefIsLittleEndianBytesRow.holds Try.pinned (OpenSpec.ofChange fnPageRefIsLittleEndianBytesWrong)

/-- 'zzlaws_internal_pages_b1.FnPageRefKeepsOrderFromLastByte': WHATEVER THE INPUT: true; the input reads as it did. -/
def fnPageRefKeepsOrderFromLastByteSpec : ChangeSpec := { name := "fnPageRefKeepsOrderFromLastByte", fn := fun _ => fun
  | [d1, d2] => { results := [.lit (.bool true)], args := [d1, d2] }
  | _ => none }
def fnPageRefKeepsOrderFromLastByteRow : OpenClaim := { program := "qxb6605965a", sum := "877cc11b09c2828f0efd684383986b59bac52d6e0d936dd523b6c287c92615bd", func := "example.com/undoweave/undoweave/zzlaws_internal_pages_b1.FnPageRefKeepsOrderFromLastByte", spec := "fnPageRefKeepsOrderFromLastByte", named := ["encoding/binary.LittleEndian"], apart := false }
def FnPageRefKeepsOrderFromLastByteSaid : Prop := fnPageRefKeepsOrderFromLastByteRow.holds Try.pinned (OpenSpec.ofChange fnPageRefKeepsOrderFromLastByteSpec)

/-- ITS FALSE NEIGHBOUR: 'it returns false'. Refute it at one input. -/
def fnPageRefKeepsOrderFromLastByteWrong : ChangeSpec := { name := "fnPageRefKeepsOrderFromLastByte", fn := fun _ => fun
  | [d1, d2] => { results := [.lit (.bool false)], args := [d1, d2] }
  | _ => none }
def FnPageRefKeepsOrderFromLastByteWrongFalsely : Prop := fnPageRefKeepsOrderFromLastByteRow.holds Try.pinned (OpenSpec.ofChange fnPageRefKeepsOrderFromLastByteWrong)

/-- 'zzlaws_internal_pages_b1.FnNodeEntryReadsBackEveryEntry': WHATEVER THE INPUT: true; the input reads as it did. -/
def fnNodeEntryReadsBackEveryEntrySpec : ChangeSpec := { name := "fnNodeEntryReadsBackEveryEntry", fn := fun _ => fun
  | [d] => { results := [.lit (.bool true)], args := [d] }
  | _ => none }
def fnNodeEntryReadsBackEveryEntryRow : OpenClaim := { program := "qxb6605965a", sum := "877cc11b09c2828f0efd684383986b59bac52d6e0d936dd523b6c287c92615bd", func := "example.com/undoweave/undoweave/zzlaws_internal_pages_b1.FnNodeEntryReadsBackEveryEntry", spec := "fnNodeEntryReadsBackEveryEntry", named := ["encoding/binary.LittleEndian"], apart := false }
def FnNodeEntryReadsBackEveryEntrySaid : Prop := fnNodeEntryReadsBackEveryEntryRow.holds Try.pinned (OpenSpec.ofChange fnNodeEntryReadsBackEveryEntrySpec)

/-- ITS FALSE NEIGHBOUR: 'it returns false'. Refute it at one input. -/
def fnNodeEntryReadsBackEveryEntryWrong : ChangeSpec := { name := "fnNodeEntryReadsBackEveryEntry", fn := fun _ => fun
  | [d] => { results := [.lit (.bool false)], args := [d] }
  | _ => none }
def FnNodeEntryReadsBackEveryEntryWrongFalsely : Prop := fnNodeEntryReadsBackEveryEntryRow.holds Try.pinned (OpenSpec.ofChange fnNodeEntryReadsBackEveryEntryWrong)

/-- 'zzlaws_internal_pages_b1.FnNodeSearchIsLowerBound': WHATEVER THE INPUT: true; the input reads as it did. -/
def fnNodeSearchIsLowerBoundSpec : ChangeSpec := { name := "fnNodeSearchIsLowerBound", fn := fun _ => fun
  | [d1, d2] => { results := [.lit (.bool true)], args := [d1, d2] }
  | _ => none }
def fnNodeSearchIsLowerBoundRow : OpenClaim := { program := "qxb6605965a", sum := "877cc11b09c2828f0efd684383986b59bac52d6e0d936dd523b6c287c92615bd", func := "example.com/undoweave/undoweave/zzlaws_internal_pages_b1.FnNodeSearchIsLowerBound", spec := "fnNodeSearchIsLowerBound", inPlace := ["internal/bytealg.Compare"], named := ["encoding/binary.LittleEndian"], apart := false }
def FnNodeSearchIsLowerBoundSaid : Prop := fnNodeSearchIsLowerBoundRow.holds Try.pinned (OpenSpec.ofChange fnNodeSearchIsLowerBoundSpec)

/-- ITS FALSE NEIGHBOUR: 'it returns false'. Refute it at one input. -/
def fnNodeSearchIsLowerBoundWrong : ChangeSpec := { name := "fnNodeSearchIsLowerBound", fn := fun _ => fun
  | [d1, d2] => { results := [.lit (.bool false)], args := [d1, d2] }
  | _ => none }
def FnNodeSearchIsLowerBoundWrongFalsely : Prop := fnNodeSearchIsLowerBoundRow.holds Try.pinned (OpenSpec.ofChange fnNodeSearchIsLowerBoundWrong)

/-- 'zzlaws_internal_pages_b1.FnNodeSearchFindsEachKeyAtItsFirstEntry': WHATEVER THE INPUT: true; the input reads as it did. -/
def fnNodeSearchFindsEachKeyAtItsFirstEntrySpec : ChangeSpec := { name := "fnNodeSearchFindsEachKeyAtItsFirstEntry", fn := fun _ => fun
  | [d] => { results := [.lit (.bool true)], args := [d] }
  | _ => none }
def fnNodeSearchFindsEachKeyAtItsFirstEntryRow : OpenClaim := { program := "qxb6605965a", sum := "877cc11b09c2828f0efd684383986b59bac52d6e0d936dd523b6c287c92615bd", func := "example.com/undoweave/undoweave/zzlaws_internal_pages_b1.FnNodeSearchFindsEachKeyAtItsFirstEntry", spec := "fnNodeSearchFindsEachKeyAtItsFirstEntry", inPlace := ["internal/bytealg.Compare"], named := ["encoding/binary.LittleEndian"], apart := false }
def FnNodeSearchFindsEachKeyAtItsFirstEntrySaid : Prop := fnNodeSearchFindsEachKeyAtItsFirstEntryRow.holds Try.pinned (OpenSpec.ofChange fnNodeSearchFindsEachKeyAtItsFirstEntrySpec)

/-- ITS FALSE NEIGHBOUR: 'it returns false'. Refute it at one input. -/
def fnNodeSearchFindsEachKeyAtItsFirstEntryWrong : ChangeSpec := { name := "fnNodeSearchFindsEachKeyAtItsFirstEntry", fn := fun _ => fun
  | [d] => { results := [.lit (.bool false)], args := [d] }
  | _ => none }
def FnNodeSearchFindsEachKeyAtItsFirstEntryWrongFalsely : Prop := fnNodeSearchFindsEachKeyAtItsFirstEntryRow.holds Try.pinned (OpenSpec.ofChange fnNodeSearchFindsEachKeyAtItsFirstEntryWrong)

end Rows
end Go.Proofs.Qxb6605965a
