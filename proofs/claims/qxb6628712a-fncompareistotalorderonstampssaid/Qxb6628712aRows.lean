/-
  No cell of these rows narrows 'for every input' (looked for: loops, veiled, ifaces, maps, wideKeys, modest, calm, conditions, laid).
  DERIVED. THE GIVEN ROWS OF THIS SEAT. 2 by the template 'for every input the law returns true; each argument reads behind the call as it read before'; 0 by the template 'total and deterministic' (their statements: Qxb6628712aTotals.lean).
  GIVEN WITH THE SEED: the statements are not yours to turn. If you find one false, say at which input.
  Laid BY PROGRAM, IN A SANDBOX (cutbox-rows.mjs): the forced cells as the released guide's own fill.sh prints them over the translation e4367a5fe32fe811… (all of the seat's roots in one cut). By AI agents, Wed Nov 11 2026. No macro, syntax, notation, axiom, sorry.
-/
import Derived.Test.Qxb6628712aChecked
import GoSem.Claim
import GoSem.ClaimJoined
import GoSem.ClaimMapViews
import Derived.JoinedTies
import Derived.KernelRfl
namespace Go.Proofs.Qxb6628712a
/- THE CELL 'sum', in the pinned program and in every row, IS THE sha256 OF THE DUMP (.gsa) THAT Qxb6628712aProg.lean LOADS. Nothing in Lean hashes anything: it is a label: what it is worth is what the hold of that sum in a sandbox is worth. -/
noncomputable def Try.pinned : Pinned := { name := "qxb6628712a", sum := "e4367a5fe32fe811467384e43c26b2b7e7d9fc4fe0dde092380382f61b46a444", checked := Try.checked }
namespace Rows
def none {H : Type} : Left H := { results := [], args := [] }

/-- 'zzlaws_root_b1.FnCompareLaterStampIsLater': WHATEVER THE INPUT: true; the input reads as it did. -/
def fnCompareLaterStampIsLaterSpec : ChangeSpec := { name := "fnCompareLaterStampIsLater", fn := fun _ => fun
  | [d1, d2, d3, d4] => { results := [.lit (.bool true)], args := [d1, d2, d3, d4] }
  | _ => none }
def fnCompareLaterStampIsLaterRow : OpenClaim := { program := "qxb6628712a", sum := "e4367a5fe32fe811467384e43c26b2b7e7d9fc4fe0dde092380382f61b46a444", func := "example.com/settlemark/settlemark/zzlaws_root_b1.FnCompareLaterStampIsLater", spec := "fnCompareLaterStampIsLater", apart := false }
def FnCompareLaterStampIsLaterSaid : Prop := fnCompareLaterStampIsLaterRow.holds Try.pinned (OpenSpec.ofChange fnCompareLaterStampIsLaterSpec)

/-- ITS FALSE NEIGHBOUR: 'it returns false'. Refute it at one input. -/
def fnCompareLaterStampIsLaterWrong : ChangeSpec := { name := "fnCompareLaterStampIsLater", fn := fun _ => fun
  | [d1, d2, d3, d4] => { results := [.lit (.bool false)], args := [d1, d2, d3, d4] }
  | _ => none }
def FnCompareLaterStampIsLaterWrongFalsely : Prop := fnCompareLaterStampIsLaterRow.holds Try.pinned (OpenSpec.ofChange fnCompareLaterStampIsLaterWrong)

/-- 'zzlaws_root_b1.FnCompareIsTotalOrderOnStamps': WHATEVER THE INPUT: true; the input reads as it did. -/
def fnCompareIsTotalOrderOnStampsSpec : ChangeSpec := { name := "fnCompareIsTotalOrderOnStamps", fn := fun _ => fun
  | [d1, d2, d3, d4, d5, d6] => { results := [.lit (.bool true)], args := [d1, d2, d3, d4, d5, d6] }
  | _ => none }
def fnCompareIsTotalOrderOnStampsRow : OpenClaim := { program := "qxb6628712a", sum := "e4367a5fe32fe811467384e43c26b2b7e7d9fc4fe0dde092380382f61b46a444", func := "example.com/settlemark/settlemark/zzlaws_root_b1.FnCompareIsTotalOrderOnStamps", spec := "fnCompareIsTotalOrderOnStamps", apart := false }
def FnCompareIsTotalOrderOnStampsSaid : Prop := fnCompareIsTotalOrderOnStampsRow.holds Try.pinned (OpenSpec.ofChange fnCompareIsTotalOrderOnStampsSpec)

/-- ITS FALSE NEIGHBOUR: 'it returns false'. Refute it at one input. -/
def fnCompareIsTotalOrderOnStampsWrong : ChangeSpec := { name := "fnCompareIsTotalOrderOnStamps", fn := fun _ => fun
  | [d1, d2, d3, d4, d5, d6] => { results := [.lit (.bool false)], args := [d1, d2, d3, d4, d5, d6] }
  | _ => none }
def FnCompareIsTotalOrderOnStampsWrongFalsely : Prop := fnCompareIsTotalOrderOnStampsRow.holds Try.pinned (OpenSpec.ofChange fnCompareIsTotalOrderOnStampsWrong)

end Rows
end Go.Proofs.Qxb6628712a
