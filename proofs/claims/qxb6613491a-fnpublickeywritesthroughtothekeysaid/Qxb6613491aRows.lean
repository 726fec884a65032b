/-
  No cell of these rows narrows 'for every input' (looked for: loops, veiled, ifaces, maps, wideKeys, modest, calm, conditions, laid).
  DERIVED. THE GIVEN ROWS OF THIS SEAT. 3 by the template 'for every input the law returns true; each argument reads behind the call as it read before'; 0 by the template 'total and deterministic' (their statements: Qxb6613491aTotals.lean).
  GIVEN WITH THE SEED: the statements are not yours to turn. If you find one false, say at which input.
  Laid BY PROGRAM, IN A SANDBOX (cutbox-rows.mjs): the forced cells as the released guide's own fill.sh prints them over the translation f34d0951a8259d00… (all of the seat's roots in one cut). By AI agents, Wed Nov 11 2026. No macro, syntax, notation, axiom, sorry.
-/
import Derived.Test.Qxb6613491aChecked
import GoSem.Claim
import GoSem.ClaimJoined
import GoSem.ClaimMapViews
import Derived.JoinedTies
import Derived.KernelRfl
namespace Go.Proofs.Qxb6613491a
/- THE CELL 'sum', in the pinned program and in every row, IS THE sha256 OF THE DUMP (.gsa) THAT Qxb6613491aProg.lean LOADS. Nothing in Lean hashes anything: it is a label: what it is worth is what the hold of that sum in a sandbox is worth. -/
noncomputable def Try.pinned : Pinned := { name := "qxb6613491a", sum := "f34d0951a8259d00560204277b673cfe38381677153dba23d942b46bec7eecaa", checked := Try.checked }
namespace Rows
def none {H : Type} : Left H := { results := [], args := [] }

/-- 'zzlaws_internal_sntrup761_b1.FnNonzeroOfOrIsOrOfNonzero': WHATEVER THE INPUT: true; the input reads as it did. -/
def fnNonzeroOfOrIsOrOfNonzeroSpec : ChangeSpec := { name := "fnNonzeroOfOrIsOrOfNonzero", fn := fun _ => fun
  | [d1, d2] => { results := [.lit (.bool true)], args := [d1, d2] }
  | _ => none }
def fnNonzeroOfOrIsOrOfNonzeroRow : OpenClaim := { program := "qxb6613491a", sum := "f34d0951a8259d00560204277b673cfe38381677153dba23d942b46bec7eecaa", func := "keelhatch.example/keelhatch/zzlaws_internal_sntrup761_b1.FnNonzeroOfOrIsOrOfNonzero", spec := "fnNonzeroOfOrIsOrOfNonzero", apart := false }
def FnNonzeroOfOrIsOrOfNonzeroSaid : Prop := fnNonzeroOfOrIsOrOfNonzeroRow.holds Try.pinned (OpenSpec.ofChange fnNonzeroOfOrIsOrOfNonzeroSpec)

/-- ITS FALSE NEIGHBOUR: 'it returns false'. Refute it at one input. -/
def fnNonzeroOfOrIsOrOfNonzeroWrong : ChangeSpec := { name := "fnNonzeroOfOrIsOrOfNonzero", fn := fun _ => fun
  | [d1, d2] => { results := [.lit (.bool false)], args := [d1, d2] }
  | _ => none }
def FnNonzeroOfOrIsOrOfNonzeroWrongFalsely : Prop := fnNonzeroOfOrIsOrOfNonzeroRow.holds Try.pinned (OpenSpec.ofChange fnNonzeroOfOrIsOrOfNonzeroWrong)

/-- 'zzlaws_internal_sntrup761_b1.FnNonzeroOfDifferenceMarksInequality': WHATEVER THE INPUT: true; the input reads as it did. -/
def fnNonzeroOfDifferenceMarksInequalitySpec : ChangeSpec := { name := "fnNonzeroOfDifferenceMarksInequality", fn := fun _ => fun
  | [d1, d2] => { results := [.lit (.bool true)], args := [d1, d2] }
  | _ => none }
def fnNonzeroOfDifferenceMarksInequalityRow : OpenClaim := { program := "qxb6613491a", sum := "f34d0951a8259d00560204277b673cfe38381677153dba23d942b46bec7eecaa", func := "keelhatch.example/keelhatch/zzlaws_internal_sntrup761_b1.FnNonzeroOfDifferenceMarksInequality", spec := "fnNonzeroOfDifferenceMarksInequality", apart := false }
def FnNonzeroOfDifferenceMarksInequalitySaid : Prop := fnNonzeroOfDifferenceMarksInequalityRow.holds Try.pinned (OpenSpec.ofChange fnNonzeroOfDifferenceMarksInequalitySpec)

/-- ITS FALSE NEIGHBOUR: 'it returns false'. Refute it at one input. -/
def fnNonzeroOfDifferenceMarksInequalityWrong : ChangeSpec := { name := "fnNonzeroOfDifferenceMarksInequality", fn := fun _ => fun
  | [d1, d2] => { results := [.lit (.bool false)], args := [d1, d2] }
  | _ => none }
def FnNonzeroOfDifferenceMarksInequalityWrongFalsely : Prop := fnNonzeroOfDifferenceMarksInequalityRow.holds Try.pinned (OpenSpec.ofChange fnNonzeroOfDifferenceMarksInequalityWrong)

/-- 'zzlaws_internal_sntrup761_b1.FnPublicKeyWritesThroughToTheKey': WHATEVER THE INPUT: true; the input reads as it did. -/
def fnPublicKeyWritesThroughToTheKeySpec : ChangeSpec := { name := "fnPublicKeyWritesThroughToTheKey", fn := fun _ => fun
  | [d1, d2, d3] => { results := [.lit (.bool true)], args := [d1, d2, d3] }
  | _ => none }
def fnPublicKeyWritesThroughToTheKeyRow : OpenClaim := { program := "qxb6613491a", sum := "f34d0951a8259d00560204277b673cfe38381677153dba23d942b46bec7eecaa", func := "keelhatch.example/keelhatch/zzlaws_internal_sntrup761_b1.FnPublicKeyWritesThroughToTheKey", spec := "fnPublicKeyWritesThroughToTheKey", apart := false }
def FnPublicKeyWritesThroughToTheKeySaid : Prop := fnPublicKeyWritesThroughToTheKeyRow.holds Try.pinned (OpenSpec.ofChange fnPublicKeyWritesThroughToTheKeySpec)

/-- ITS FALSE NEIGHBOUR: 'it returns false'. Refute it at one input. -/
def fnPublicKeyWritesThroughToTheKeyWrong : ChangeSpec := { name := "fnPublicKeyWritesThroughToTheKey", fn := fun _ => fun
  | [d1, d2, d3] => { results := [.lit (.bool false)], args := [d1, d2, d3] }
  | _ => none }
def FnPublicKeyWritesThroughToTheKeyWrongFalsely : Prop := fnPublicKeyWritesThroughToTheKeyRow.holds Try.pinned (OpenSpec.ofChange fnPublicKeyWritesThroughToTheKeyWrong)

end Rows
end Go.Proofs.Qxb6613491a
