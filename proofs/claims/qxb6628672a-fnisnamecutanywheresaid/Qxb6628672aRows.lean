/-
  No cell of these rows narrows 'for every input' (looked for: loops, veiled, ifaces, maps, wideKeys, modest, calm, conditions, laid).
  DERIVED. THE GIVEN ROWS OF THIS SEAT. 2 by the template 'for every input the law returns true; each argument reads behind the call as it read before'; 0 by the template 'total and deterministic' (their statements: Qxb6628672aTotals.lean).
  GIVEN WITH THE SEED: the statements are not yours to turn. If you find one false, say at which input.
  Laid BY PROGRAM, IN A SANDBOX (cutbox-rows.mjs): the forced cells as the released guide's own fill.sh prints them over the translation 0443f9020953e7a7… (all of the seat's roots in one cut). By AI agents, Wed Nov 11 2026. No macro, syntax, notation, axiom, sorry.
-/
import Derived.Test.Qxb6628672aChecked
import GoSem.Claim
import GoSem.ClaimJoined
import GoSem.ClaimMapViews
import Derived.JoinedTies
import Derived.KernelRfl
namespace Go.Proofs.Qxb6628672a
/- THE CELL 'sum', in the pinned program and in every row, IS THE sha256 OF THE DUMP (.gsa) THAT Qxb6628672aProg.lean LOADS. Nothing in Lean hashes anything: it is a label: what it is worth is what the hold of that sum in a sandbox is worth. -/
noncomputable def Try.pinned : Pinned := { name := "qxb6628672a", sum := "0443f9020953e7a71efd23e6e74456a0f203fdaf7211e9ac708d5c261d11152f", checked := Try.checked }
namespace Rows
def none {H : Type} : Left H := { results := [], args := [] }

/-- 'zzlaws_internal_schema_b1.FnIsNameCutAnywhere': WHATEVER THE INPUT: true; the input reads as it did. -/
def fnIsNameCutAnywhereSpec : ChangeSpec := { name := "fnIsNameCutAnywhere", fn := fun _ => fun
  | [d1, d2] => { results := [.lit (.bool true)], args := [d1, d2] }
  | _ => none }
def fnIsNameCutAnywhereRow : OpenClaim := { program := "qxb6628672a", sum := "0443f9020953e7a71efd23e6e74456a0f203fdaf7211e9ac708d5c261d11152f", func := "example.com/holdout/holdout/zzlaws_internal_schema_b1.FnIsNameCutAnywhere", spec := "fnIsNameCutAnywhere", apart := false }
def FnIsNameCutAnywhereSaid : Prop := fnIsNameCutAnywhereRow.holds Try.pinned (OpenSpec.ofChange fnIsNameCutAnywhereSpec)

/-- ITS FALSE NEIGHBOUR: 'it returns false'. Refute it at one input. -/
def fnIsNameCutAnywhereWrong : ChangeSpec := { name := "fnIsNameCutAnywhere", fn := fun _ => fun
  | [d1, d2] => { results := [.lit (.bool false)], args := [d1, d2] }
  | _ => none }
def FnIsNameCutAnywhereWrongFalsely : Prop := fnIsNameCutAnywhereRow.holds Try.pinned (OpenSpec.ofChange fnIsNameCutAnywhereWrong)

/-- 'zzlaws_internal_schema_b1.FnIsNameRepairByOwnVerdicts': WHATEVER THE INPUT: true; the input reads as it did. -/
def fnIsNameRepairByOwnVerdictsSpec : ChangeSpec := { name := "fnIsNameRepairByOwnVerdicts", fn := fun _ => fun
  | [d] => { results := [.lit (.bool true)], args := [d] }
  | _ => none }
def fnIsNameRepairByOwnVerdictsRow : OpenClaim := { program := "qxb6628672a", sum := "0443f9020953e7a71efd23e6e74456a0f203fdaf7211e9ac708d5c261d11152f", func := "example.com/holdout/holdout/zzlaws_internal_schema_b1.FnIsNameRepairByOwnVerdicts", spec := "fnIsNameRepairByOwnVerdicts", apart := false }
def FnIsNameRepairByOwnVerdictsSaid : Prop := fnIsNameRepairByOwnVerdictsRow.holds Try.pinned (OpenSpec.ofChange fnIsNameRepairByOwnVerdictsSpec)

/-- ITS FALSE NEIGHBOUR: 'it returns false'. Refute it at one input. -/
def fnIsNameRepairByOwnVerdictsWrong : ChangeSpec := { name := "fnIsNameRepairByOwnVerdicts", fn := fun _ => fun
  | [d] => { results := [.lit (.bool false)], args := [d] }
  | _ => none }
def FnIsNameRepairByOwnVerdictsWrongFalsely : Prop := fnIsNameRepairByOwnVerdictsRow.holds Try.pinned (OpenSpec.ofChange fnIsNameRepairByOwnVerdictsWrong)

end Rows
end Go.Proofs.Qxb6628672a
