/-
  No cell of these rows narrows 'for every input' (looked for: loops, veiled, ifaces, maps, wideKeys, modest, calm, conditions, laid).
  DERIVED. THE GIVEN ROWS OF THIS SEAT. 2 by the template 'for every input the law returns true; each argument reads behind the call as it read before'; 0 by the template 'total and deterministic' (their statements: Qxb6604258aTotals.lean).
  GIVEN WITH THE SEED: the statements are not yours to turn. If you find one false, say at which input.
  Laid BY PROGRAM, IN A SANDBOX (cutbox-rows.mjs): the forced cells as the released guide's own fill.sh prints them over the translation 3ef3c2c52ef63f31… (all of the seat's roots in one cut). By AI agents, Wed Nov 11 2026. No macro, syntax, notation, axiom, sorry.
-/
import Derived.Test.Qxb6604258aChecked
import GoSem.Claim
import GoSem.ClaimJoined
import GoSem.ClaimMapViews
import Derived.JoinedTies
import Derived.KernelRfl
namespace Go.Proofs.Qxb6604258a
/- THE CELL 'sum', in the pinned program and in every row, IS THE sha256 OF THE DUMP (.gsa) THAT Qxb6604258aProg.lean LOADS. Nothing in Lean hashes anything: it is a label: what it is worth is what the hold of that sum in a sandbox is worth. -/
noncomputable def Try.pinned : Pinned := { name := "qxb6604258a", sum := "3ef3c2c52ef63f3111cd379ec0d8da7faf3bb96008fe8aafb991254cf87506f0", checked := Try.checked }
namespace Rows
def none {H : Type} : Left H := { results := [], args := [] }

/-- 'zzlaws_internal_figure_b1.FnDigitsMatchesPointModel': WHATEVER THE INPUT: true; the input reads as it did. -/
def fnDigitsMatchesPointModelSpec : ChangeSpec := { name := "fnDigitsMatchesPointModel", fn := fun _ => fun
  | [d] => { results := [.lit (.bool true)], args := [d] }
  | _ => none }
def fnDigitsMatchesPointModelRow : OpenClaim := { program := "qxb6604258a", sum := "3ef3c2c52ef63f3111cd379ec0d8da7faf3bb96008fe8aafb991254cf87506f0", func := "example.com/zhaomu/zhaomu/zzlaws_internal_figure_b1.FnDigitsMatchesPointModel", spec := "fnDigitsMatchesPointModel", apart := false }
def FnDigitsMatchesPointModelSaid : Prop := fnDigitsMatchesPointModelRow.holds Try.pinned (OpenSpec.ofChange fnDigitsMatchesPointModelSpec)

/-- ITS FALSE NEIGHBOUR: 'it returns false'. Refute it at one input. -/
def fnDigitsMatchesPointModelWrong : ChangeSpec := { name := "fnDigitsMatchesPointModel", fn := fun _ => fun
  | [d] => { results := [.lit (.bool false)], args := [d] }
  | _ => none }
def FnDigitsMatchesPointModelWrongFalsely : Prop := fnDigitsMatchesPointModelRow.holds Try.pinned (OpenSpec.ofChange fnDigitsMatchesPointModelWrong)

/-- 'zzlaws_internal_figure_b1.FnCompareUint64IsTotalOrder': WHATEVER THE INPUT: true; the input reads as it did. -/
def fnCompareUint64IsTotalOrderSpec : ChangeSpec := { name := "fnCompareUint64IsTotalOrder", fn := fun _ => fun
  | [d1, d2, d3] => { results := [.lit (.bool true)], args := [d1, d2, d3] }
  | _ => none }
def fnCompareUint64IsTotalOrderRow : OpenClaim := { program := "qxb6604258a", sum := "3ef3c2c52ef63f3111cd379ec0d8da7faf3bb96008fe8aafb991254cf87506f0", func := "example.com/zhaomu/zhaomu/zzlaws_internal_figure_b1.FnCompareUint64IsTotalOrder", spec := "fnCompareUint64IsTotalOrder", apart := false }
def FnCompareUint64IsTotalOrderSaid : Prop := fnCompareUint64IsTotalOrderRow.holds Try.pinned (OpenSpec.ofChange fnCompareUint64IsTotalOrderSpec)

/-- ITS FALSE NEIGHBOUR: 'it returns false'. Refute it at one input. -/
def fnCompareUint64IsTotalOrderWrong : ChangeSpec := { name := "fnCompareUint64IsTotalOrder", fn := fun _ => fun
  | [d1, d2, d3] => { results := [.lit (.bool false)], args := [d1, d2, d3] }
  | _ => none }
def FnCompareUint64IsTotalOrderWrongFalsely : Prop := fnCompareUint64IsTotalOrderRow.holds Try.pinned (OpenSpec.ofChange fnCompareUint64IsTotalOrderWrong)

end Rows
end Go.Proofs.Qxb6604258a
