/-
  No cell of these rows narrows 'for every input' (looked for: loops, veiled, ifaces, maps, wideKeys, modest, calm, conditions, laid).
  DERIVED. THE GIVEN ROWS OF THIS SEAT. 2 by the template 'for every input the law returns true; each argument reads behind the call as it read before'; 0 by the template 'total and deterministic' (their statements: Qxb6628773aTotals.lean).
  GIVEN WITH THE SEED: the statements are not yours to turn. If you find one false, say at which input.
  Laid BY PROGRAM, IN A SANDBOX (cutbox-rows.mjs): the forced cells as the released guide's own fill.sh prints them over the translation f1e604aa9b3604a4… (all of the seat's roots in one cut). By AI agents, Wed Nov 11 2026. No macro, syntax, notation, axiom, sorry.
-/
import Derived.Test.Qxb6628773aChecked
import GoSem.Claim
import GoSem.ClaimJoined
import GoSem.ClaimMapViews
import Derived.JoinedTies
import Derived.KernelRfl
namespace Go.Proofs.Qxb6628773a
/- THE CELL 'sum', in the pinned program and in every row, IS THE sha256 OF THE DUMP (.gsa) THAT Qxb6628773aProg.lean LOADS. Nothing in Lean hashes anything: it is a label: what it is worth is what the hold of that sum in a sandbox is worth. -/
noncomputable def Try.pinned : Pinned := { name := "qxb6628773a", sum := "f1e604aa9b3604a43fe50ca719f4f1be2c0283f4615981b48a6866956f663d5f", checked := Try.checked }
namespace Rows
def none {H : Type} : Left H := { results := [], args := [] }

/-- 'zzlaws_internal_wasm_b1.FnPutU32OverwriteInPlace': WHATEVER THE INPUT: true; the input reads as it did. -/
def fnPutU32OverwriteInPlaceSpec : ChangeSpec := { name := "fnPutU32OverwriteInPlace", fn := fun _ => fun
  | [d1, d2, d3] => { results := [.lit (.bool true)], args := [d1, d2, d3] }
  | _ => none }
def fnPutU32OverwriteInPlaceRow : OpenClaim := { program := "qxb6628773a", sum := "f1e604aa9b3604a43fe50ca719f4f1be2c0283f4615981b48a6866956f663d5f", func := "example.com/wicketmill/wicketmill/zzlaws_internal_wasm_b1.FnPutU32OverwriteInPlace", spec := "fnPutU32OverwriteInPlace", apart := false }
def FnPutU32OverwriteInPlaceSaid : Prop := fnPutU32OverwriteInPlaceRow.holds Try.pinned (OpenSpec.ofChange fnPutU32OverwriteInPlaceSpec)

/-- ITS FALSE NEIGHBOUR: 'it returns false'. Refute it at one input. -/
def fnPutU32OverwriteInPlaceWrong : ChangeSpec := { name := "fnPutU32OverwriteInPlace", fn := fun _ => fun
  | [d1, d2, d3] => { results := [.lit (.bool false)], args := [d1, d2, d3] }
  | _ => none }
def FnPutU32OverwriteInPlaceWrongFalsely : Prop := fnPutU32OverwriteInPlaceRow.holds Try.pinned (OpenSpec.ofChange fnPutU32OverwriteInPlaceWrong)

/-- 'zzlaws_internal_wasm_b1.FnPutU32LengthsAgree': WHATEVER THE INPUT: true; the input reads as it did. -/
def fnPutU32LengthsAgreeSpec : ChangeSpec := { name := "fnPutU32LengthsAgree", fn := fun _ => fun
  | [d1, d2, d3] => { results := [.lit (.bool true)], args := [d1, d2, d3] }
  | _ => none }
def fnPutU32LengthsAgreeRow : OpenClaim := { program := "qxb6628773a", sum := "f1e604aa9b3604a43fe50ca719f4f1be2c0283f4615981b48a6866956f663d5f", func := "example.com/wicketmill/wicketmill/zzlaws_internal_wasm_b1.FnPutU32LengthsAgree", spec := "fnPutU32LengthsAgree", apart := false }
def FnPutU32LengthsAgreeSaid : Prop := fnPutU32LengthsAgreeRow.holds Try.pinned (OpenSpec.ofChange fnPutU32LengthsAgreeSpec)

/-- ITS FALSE NEIGHBOUR: 'it returns false'. Refute it at one input. -/
def fnPutU32LengthsAgreeWrong : ChangeSpec := { name := "fnPutU32LengthsAgree", fn := fun _ => fun
  | [d1, d2, d3] => { results := [.lit (.bool false)], args := [d1, d2, d3] }
  | _ => none }
def FnPutU32LengthsAgreeWrongFalsely : Prop := fnPutU32LengthsAgreeRow.holds Try.pinned (OpenSpec.ofChange fnPutU32LengthsAgreeWrong)

end Rows
end Go.Proofs.Qxb6628773a
