/-
  No cell of these rows narrows 'for every input' (looked for: loops, veiled, ifaces, maps, wideKeys, modest, calm, conditions, laid).
  DERIVED. THE GIVEN ROWS OF THIS SEAT. 2 by the template 'for every input the law returns true; each argument reads behind the call as it read before'; 0 by the template 'total and deterministic' (their statements: Qxb6628750aTotals.lean).
  GIVEN WITH THE SEED: the statements are not yours to turn. If you find one false, say at which input.
  Laid BY PROGRAM, IN A SANDBOX (cutbox-rows.mjs): the forced cells as the released guide's own fill.sh prints them over the translation 8d6ca4839a081c9e… (all of the seat's roots in one cut). By AI agents, Wed Nov 11 2026. No macro, syntax, notation, axiom, sorry.
-/
import Derived.Test.Qxb6628750aChecked
import GoSem.Claim
import GoSem.ClaimJoined
import GoSem.ClaimMapViews
import Derived.JoinedTies
import Derived.KernelRfl
namespace Go.Proofs.Qxb6628750a
/- THE CELL 'sum', in the pinned program and in every row, IS THE sha256 OF THE DUMP (.gsa) THAT Qxb6628750aProg.lean LOADS. Nothing in Lean hashes anything: it is a label: what it is worth is what the hold of that sum in a sandbox is worth. -/
noncomputable def Try.pinned : Pinned := { name := "qxb6628750a", sum := "8d6ca4839a081c9efa9b2c8a0131824ca1bcb4cb5df096a946a5bc02e5db94f5", checked := Try.checked }
namespace Rows
def none {H : Type} : Left H := { results := [], args := [] }

/-- 'zzlaws_internal_execlimits_b1.FnRoomIsNearestPointAndNamesItsRegion': WHATEVER THE INPUT: true; the input reads as it did. -/
def fnRoomIsNearestPointAndNamesItsRegionSpec : ChangeSpec := { name := "fnRoomIsNearestPointAndNamesItsRegion", fn := fun _ => fun
  | [d] => { results := [.lit (.bool true)], args := [d] }
  | _ => none }
def fnRoomIsNearestPointAndNamesItsRegionRow : OpenClaim := { program := "qxb6628750a", sum := "8d6ca4839a081c9efa9b2c8a0131824ca1bcb4cb5df096a946a5bc02e5db94f5", func := "example.com/feedline/feedline/zzlaws_internal_execlimits_b1.FnRoomIsNearestPointAndNamesItsRegion", spec := "fnRoomIsNearestPointAndNamesItsRegion", apart := false }
def FnRoomIsNearestPointAndNamesItsRegionSaid : Prop := fnRoomIsNearestPointAndNamesItsRegionRow.holds Try.pinned (OpenSpec.ofChange fnRoomIsNearestPointAndNamesItsRegionSpec)

/-- ITS FALSE NEIGHBOUR: 'it returns false'. Refute it at one input. -/
def fnRoomIsNearestPointAndNamesItsRegionWrong : ChangeSpec := { name := "fnRoomIsNearestPointAndNamesItsRegion", fn := fun _ => fun
  | [d] => { results := [.lit (.bool false)], args := [d] }
  | _ => none }
def FnRoomIsNearestPointAndNamesItsRegionWrongFalsely : Prop := fnRoomIsNearestPointAndNamesItsRegionRow.holds Try.pinned (OpenSpec.ofChange fnRoomIsNearestPointAndNamesItsRegionWrong)

/-- 'zzlaws_internal_execlimits_b1.FnRoomGrowsByTheOverlapOfQuarters': WHATEVER THE INPUT: true; the input reads as it did. -/
def fnRoomGrowsByTheOverlapOfQuartersSpec : ChangeSpec := { name := "fnRoomGrowsByTheOverlapOfQuarters", fn := fun _ => fun
  | [d1, d2] => { results := [.lit (.bool true)], args := [d1, d2] }
  | _ => none }
def fnRoomGrowsByTheOverlapOfQuartersRow : OpenClaim := { program := "qxb6628750a", sum := "8d6ca4839a081c9efa9b2c8a0131824ca1bcb4cb5df096a946a5bc02e5db94f5", func := "example.com/feedline/feedline/zzlaws_internal_execlimits_b1.FnRoomGrowsByTheOverlapOfQuarters", spec := "fnRoomGrowsByTheOverlapOfQuarters", apart := false }
def FnRoomGrowsByTheOverlapOfQuartersSaid : Prop := fnRoomGrowsByTheOverlapOfQuartersRow.holds Try.pinned (OpenSpec.ofChange fnRoomGrowsByTheOverlapOfQuartersSpec)

/-- ITS FALSE NEIGHBOUR: 'it returns false'. Refute it at one input. -/
def fnRoomGrowsByTheOverlapOfQuartersWrong : ChangeSpec := { name := "fnRoomGrowsByTheOverlapOfQuarters", fn := fun _ => fun
  | [d1, d2] => { results := [.lit (.bool false)], args := [d1, d2] }
  | _ => none }
def FnRoomGrowsByTheOverlapOfQuartersWrongFalsely : Prop := fnRoomGrowsByTheOverlapOfQuartersRow.holds Try.pinned (OpenSpec.ofChange fnRoomGrowsByTheOverlapOfQuartersWrong)

end Rows
end Go.Proofs.Qxb6628750a
