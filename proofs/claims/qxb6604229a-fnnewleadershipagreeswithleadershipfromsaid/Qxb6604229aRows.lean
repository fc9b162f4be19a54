/-
  No cell of these rows narrows 'for every input' (looked for: loops, veiled, ifaces, maps, wideKeys, modest, calm, conditions, laid).
  DERIVED. THE GIVEN ROWS OF THIS SEAT. 3 by the template 'for every input the law returns true; each argument reads behind the call as it read before'; 0 by the template 'total and deterministic' (their statements: Qxb6604229aTotals.lean).
  GIVEN WITH THE SEED: the statements are not yours to turn. If you find one false, say at which input.
  Laid BY PROGRAM, IN A SANDBOX (cutbox-rows.mjs): the forced cells as the released guide's own fill.sh prints them over the translation 1871ef01e1cbb676… (all of the seat's roots in one cut). By AI agents, Wed Nov 11 2026. No macro, syntax, notation, axiom, sorry.
-/
import Derived.Test.Qxb6604229aChecked
import GoSem.Claim
import GoSem.ClaimJoined
import GoSem.ClaimMapViews
import Derived.JoinedTies
import Derived.KernelRfl
namespace Go.Proofs.Qxb6604229a
/- THE CELL 'sum', in the pinned program and in every row, IS THE sha256 OF THE DUMP (.gsa) THAT Qxb6604229aProg.lean LOADS. Nothing in Lean hashes anything: it is a label: what it is worth is what the hold of that sum in a sandbox is worth. -/
noncomputable def Try.pinned : Pinned := { name := "qxb6604229a", sum := "1871ef01e1cbb6765e5e7a6b80cc7492c3ccaf9ec776df83d2b8702f042205df", checked := Try.checked }
namespace Rows
def none {H : Type} : Left H := { results := [], args := [] }

/-- 'zzlaws_root_b1.FnNewLeadershipAgreesWithLeadershipFrom': WHATEVER THE INPUT: true; the input reads as it did. -/
def fnNewLeadershipAgreesWithLeadershipFromSpec : ChangeSpec := { name := "fnNewLeadershipAgreesWithLeadershipFrom", fn := fun _ => fun
  | [d1, d2, d3] => { results := [.lit (.bool true)], args := [d1, d2, d3] }
  | _ => none }
def fnNewLeadershipAgreesWithLeadershipFromRow : OpenClaim := { program := "qxb6604229a", sum := "1871ef01e1cbb6765e5e7a6b80cc7492c3ccaf9ec776df83d2b8702f042205df", func := "example.com/hustings/hustings/zzlaws_root_b1.FnNewLeadershipAgreesWithLeadershipFrom", spec := "fnNewLeadershipAgreesWithLeadershipFrom", apart := false }
def FnNewLeadershipAgreesWithLeadershipFromSaid : Prop := fnNewLeadershipAgreesWithLeadershipFromRow.holds Try.pinned (OpenSpec.ofChange fnNewLeadershipAgreesWithLeadershipFromSpec)

/-- ITS FALSE NEIGHBOUR: 'it returns false'. Refute it at one input. -/
def fnNewLeadershipAgreesWithLeadershipFromWrong : ChangeSpec := { name := "fnNewLeadershipAgreesWithLeadershipFrom", fn := fun _ => fun
  | [d1, d2, d3] => { results := [.lit (.bool false)], args := [d1, d2, d3] }
  | _ => none }
def FnNewLeadershipAgreesWithLeadershipFromWrongFalsely : Prop := fnNewLeadershipAgreesWithLeadershipFromRow.holds Try.pinned (OpenSpec.ofChange fnNewLeadershipAgreesWithLeadershipFromWrong)

/-- 'zzlaws_root_b1.FnNewLeadershipInverse': WHATEVER THE INPUT: true; the input reads as it did. -/
def fnNewLeadershipInverseSpec : ChangeSpec := { name := "fnNewLeadershipInverse", fn := fun _ => fun
  | [d1, d2, d3] => { results := [.lit (.bool true)], args := [d1, d2, d3] }
  | _ => none }
def fnNewLeadershipInverseRow : OpenClaim := { program := "qxb6604229a", sum := "1871ef01e1cbb6765e5e7a6b80cc7492c3ccaf9ec776df83d2b8702f042205df", func := "example.com/hustings/hustings/zzlaws_root_b1.FnNewLeadershipInverse", spec := "fnNewLeadershipInverse", apart := false }
def FnNewLeadershipInverseSaid : Prop := fnNewLeadershipInverseRow.holds Try.pinned (OpenSpec.ofChange fnNewLeadershipInverseSpec)

/-- ITS FALSE NEIGHBOUR: 'it returns false'. Refute it at one input. -/
def fnNewLeadershipInverseWrong : ChangeSpec := { name := "fnNewLeadershipInverse", fn := fun _ => fun
  | [d1, d2, d3] => { results := [.lit (.bool false)], args := [d1, d2, d3] }
  | _ => none }
def FnNewLeadershipInverseWrongFalsely : Prop := fnNewLeadershipInverseRow.holds Try.pinned (OpenSpec.ofChange fnNewLeadershipInverseWrong)

/-- 'zzlaws_root_b1.FnLeadershipFromRoundTrip': WHATEVER THE INPUT: true; the input reads as it did. -/
def fnLeadershipFromRoundTripSpec : ChangeSpec := { name := "fnLeadershipFromRoundTrip", fn := fun _ => fun
  | [d1, d2, d3, d4] => { results := [.lit (.bool true)], args := [d1, d2, d3, d4] }
  | _ => none }
def fnLeadershipFromRoundTripRow : OpenClaim := { program := "qxb6604229a", sum := "1871ef01e1cbb6765e5e7a6b80cc7492c3ccaf9ec776df83d2b8702f042205df", func := "example.com/hustings/hustings/zzlaws_root_b1.FnLeadershipFromRoundTrip", spec := "fnLeadershipFromRoundTrip", apart := false }
def FnLeadershipFromRoundTripSaid : Prop := fnLeadershipFromRoundTripRow.holds Try.pinned (OpenSpec.ofChange fnLeadershipFromRoundTripSpec)

/-- ITS FALSE NEIGHBOUR: 'it returns false'. Refute it at one input. -/
def fnLeadershipFromRoundTripWrong : ChangeSpec := { name := "fnLeadershipFromRoundTrip", fn := fun _ => fun
  | [d1, d2, d3, d4] => { results := [.lit (.bool false)], args := [d1, d2, d3, d4] }
  | _ => none }
def FnLeadershipFromRoundTripWrongFalsely : Prop := fnLeadershipFromRoundTripRow.holds Try.pinned (OpenSpec.ofChange fnLeadershipFromRoundTripWrong)

end Rows
end Go.Proofs.Qxb6604229a
