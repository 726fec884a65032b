/-
  No cell of these rows narrows 'for every input' (looked for: loops, veiled, ifaces, maps, wideKeys, modest, calm, conditions, laid).
  DERIVED. THE GIVEN ROWS OF THIS SEAT. 1 by the template 'for every input the law returns true; each argument reads behind the call as it read before'; 0 by the template 'total and deterministic' (their statements: Qxb6612726aTotals.lean).
  GIVEN WITH THE SEED: the statements are not yours to turn. If you find one false, say at which input.
  Laid BY PROGRAM, IN A SANDBOX (cutbox-rows.mjs): the forced cells as the released guide's own fill.sh prints them over the translation 1e8695f6bc94ac36… (all of the seat's roots in one cut). By AI agents, Wed Nov 11 2026. No macro, syntax, notation, axiom, sorry.
-/
import Derived.Test.Qxb6612726aChecked
import GoSem.Claim
import GoSem.ClaimJoined
import GoSem.ClaimMapViews
import Derived.JoinedTies
import Derived.KernelRfl
namespace Go.Proofs.Qxb6612726a
/- THE CELL 'sum', in the pinned program and in every row, IS THE sha256 OF THE DUMP (.gsa) THAT Qxb6612726aProg.lean LOADS. Nothing in Lean hashes anything: it is a label: what it is worth is what the hold of that sum in a sandbox is worth. -/
noncomputable def Try.pinned : Pinned := { name := "qxb6612726a", sum := "1e8695f6bc94ac365a1644411e8492ee61954b94a236329e9efb1b21af99b80d", checked := Try.checked }
namespace Rows
def none {H : Type} : Left H := { results := [], args := [] }

/-- 'zzlaws_root_b1.FnNewKeyNotFoundErrorFreshEachCall': WHATEVER THE INPUT: true; the input reads as it did. -/
def fnNewKeyNotFoundErrorFreshEachCallSpec : ChangeSpec := { name := "fnNewKeyNotFoundErrorFreshEachCall", fn := fun _ => fun
  | [d1, d2] => { results := [.lit (.bool true)], args := [d1, d2] }
  | _ => none }
def fnNewKeyNotFoundErrorFreshEachCallRow : OpenClaim := { program := "qxb6612726a", sum := "1e8695f6bc94ac365a1644411e8492ee61954b94a236329e9efb1b21af99b80d", func := "example.com/dry-seal/dry-seal/zzlaws_root_b1.FnNewKeyNotFoundErrorFreshEachCall", spec := "fnNewKeyNotFoundErrorFreshEachCall", unfollowed := true, recurses := true, apart := false }
def FnNewKeyNotFoundErrorFreshEachCallSaid : Prop := fnNewKeyNotFoundErrorFreshEachCallRow.holds Try.pinned (OpenSpec.ofChange fnNewKeyNotFoundErrorFreshEachCallSpec)

/-- ITS FALSE NEIGHBOUR: 'it returns false'. Refute it at one input. -/
def fnNewKeyNotFoundErrorFreshEachCallWrong : ChangeSpec := { name := "fnNewKeyNotFoundErrorFreshEachCall", fn := fun _ => fun
  | [d1, d2] => { results := [.lit (.bool false)], args := [d1, d2] }
  | _ => none }
def FnNewKeyNotFoundErrorFreshEachCallWrongFalsely : Prop := fnNewKeyNotFoundErrorFreshEachCallRow.holds Try.pinned (OpenSpec.ofChange fnNewKeyNotFoundErrorFreshEachCallWrong)

end Rows
end Go.Proofs.Qxb6612726a
