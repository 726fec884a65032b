/-
  No cell of these rows narrows 'for every input' (looked for: loops, veiled, ifaces, maps, wideKeys, modest, calm, conditions, laid).
  DERIVED. THE GIVEN ROWS OF THIS SEAT. 2 by the template 'for every input the law returns true; each argument reads behind the call as it read before'; 0 by the template 'total and deterministic' (their statements: Qxb6613946aTotals.lean).
  GIVEN WITH THE SEED: the statements are not yours to turn. If you find one false, say at which input.
  Laid BY PROGRAM, IN A SANDBOX (cutbox-rows.mjs): the forced cells as the released guide's own fill.sh prints them over the translation 15b66233ac50065f… (all of the seat's roots in one cut). By AI agents, Wed Nov 11 2026. No macro, syntax, notation, axiom, sorry.
-/
import Derived.Test.Qxb6613946aChecked
import GoSem.Claim
import GoSem.ClaimJoined
import GoSem.ClaimMapViews
import Derived.JoinedTies
import Derived.KernelRfl
namespace Go.Proofs.Qxb6613946a
/- THE CELL 'sum', in the pinned program and in every row, IS THE sha256 OF THE DUMP (.gsa) THAT Qxb6613946aProg.lean LOADS. Nothing in Lean hashes anything: it is a label: what it is worth is what the hold of that sum in a sandbox is worth. -/
noncomputable def Try.pinned : Pinned := { name := "qxb6613946a", sum := "15b66233ac50065f3e8aa95f75e4a0aedb516340e488d271c02960cee1e5dcf0", checked := Try.checked }
namespace Rows
def none {H : Type} : Left H := { results := [], args := [] }

/-- 'zzlaws_internal_wsconn_b1.FnSpoolErrorIsFixedPrefixThenCause': WHATEVER THE INPUT: true; the input reads as it did. -/
def fnSpoolErrorIsFixedPrefixThenCauseSpec : ChangeSpec := { name := "fnSpoolErrorIsFixedPrefixThenCause", fn := fun _ => fun
  | [d] => { results := [.lit (.bool true)], args := [d] }
  | _ => none }
def fnSpoolErrorIsFixedPrefixThenCauseRow : OpenClaim := { program := "qxb6613946a", sum := "15b66233ac50065f3e8aa95f75e4a0aedb516340e488d271c02960cee1e5dcf0", func := "example.com/nimble-relay/nimble-relay/zzlaws_internal_wsconn_b1.FnSpoolErrorIsFixedPrefixThenCause", spec := "fnSpoolErrorIsFixedPrefixThenCause", unfollowed := true, recurses := true, apart := false }
def FnSpoolErrorIsFixedPrefixThenCauseSaid : Prop := fnSpoolErrorIsFixedPrefixThenCauseRow.holds Try.pinned (OpenSpec.ofChange fnSpoolErrorIsFixedPrefixThenCauseSpec)

/-- ITS FALSE NEIGHBOUR: 'it returns false'. Refute it at one input. -/
def fnSpoolErrorIsFixedPrefixThenCauseWrong : ChangeSpec := { name := "fnSpoolErrorIsFixedPrefixThenCause", fn := fun _ => fun
  | [d] => { results := [.lit (.bool false)], args := [d] }
  | _ => none }
def FnSpoolErrorIsFixedPrefixThenCauseWrongFalsely : Prop := fnSpoolErrorIsFixedPrefixThenCauseRow.holds Try.pinned (OpenSpec.ofChange fnSpoolErrorIsFixedPrefixThenCauseWrong)

/-- 'zzlaws_internal_wsconn_b1.FnSpoolErrorOfSpoolErrorRepeatsPrefix': WHATEVER THE INPUT: true; the input reads as it did. -/
def fnSpoolErrorOfSpoolErrorRepeatsPrefixSpec : ChangeSpec := { name := "fnSpoolErrorOfSpoolErrorRepeatsPrefix", fn := fun _ => fun
  | [d] => { results := [.lit (.bool true)], args := [d] }
  | _ => none }
def fnSpoolErrorOfSpoolErrorRepeatsPrefixRow : OpenClaim := { program := "qxb6613946a", sum := "15b66233ac50065f3e8aa95f75e4a0aedb516340e488d271c02960cee1e5dcf0", func := "example.com/nimble-relay/nimble-relay/zzlaws_internal_wsconn_b1.FnSpoolErrorOfSpoolErrorRepeatsPrefix", spec := "fnSpoolErrorOfSpoolErrorRepeatsPrefix", unfollowed := true, recurses := true, apart := false }
def FnSpoolErrorOfSpoolErrorRepeatsPrefixSaid : Prop := fnSpoolErrorOfSpoolErrorRepeatsPrefixRow.holds Try.pinned (OpenSpec.ofChange fnSpoolErrorOfSpoolErrorRepeatsPrefixSpec)

/-- ITS FALSE NEIGHBOUR: 'it returns false'. Refute it at one input. -/
def fnSpoolErrorOfSpoolErrorRepeatsPrefixWrong : ChangeSpec := { name := "fnSpoolErrorOfSpoolErrorRepeatsPrefix", fn := fun _ => fun
  | [d] => { results := [.lit (.bool false)], args := [d] }
  | _ => none }
def FnSpoolErrorOfSpoolErrorRepeatsPrefixWrongFalsely : Prop := fnSpoolErrorOfSpoolErrorRepeatsPrefixRow.holds Try.pinned (OpenSpec.ofChange fnSpoolErrorOfSpoolErrorRepeatsPrefixWrong)

end Rows
end Go.Proofs.Qxb6613946a
