/-
  A proof of 'Rows.FnRoomIsNearestPointAndNamesItsRegionSaid'. The frame is the guide's own shell at this function's number and types; the walk is ours.
-/
import Derived.Test.Qxb6628750aRows
import Derived.WalkKit
import Derived.ProofKit
import Derived.OpenShut
import Derived.ShutString
import Derived.Test.Qxb6628750aRoom
namespace Go.Proofs.Qxb6628750a.fnRoomIsNearestPointAndNamesItsRegion
open Go.ChangeShapes Go.WideShapes Go.ChangeAt Go.RowKit
open Go.ChangeMaps (open_string shut_string)
set_option linter.unusedVariables false      -- a walk need not use every 'w<i>' (that an integer argument fits its kind)

theorem own : ownKnob Try.prog.godebug = none := by kernel_rfl

/-! ### STEP 1: THE WALK: the Go text returns true. -/
theorem top_high : (6291456 : Int) < 18446744073709551615 / 4 := by decide
theorem top_le : (18446744073709551615 : Int) ≤ 18446744073709551615 := Int.le_refl _

set_option maxHeartbeats 400000 in
theorem walk (a0 : Int) (w0 : (Lit.int .u64 a0).wf = true) (w : World) :
    Calls Try.prog 3 #[.int .u64 a0] w fun e w' => e = .returned (.bool true) ∧ Grown w w' := by
  have bd := bounds_u64 w0
  clear w0
  have e1 := low_mid
  have e2 := mid_high
  have e3 := low_high
  have e4 := low_some
  have e5 := mid_some
  have e6 := high_some
  by_cases h1 : a0 / 4 < 131072
  · go_enter Try.func3, Try.ntmps3
    go_wp2_with fail
    refine (room_low _ _ bd.1 h1).mono ?_
    rintro e w' ⟨rfl, rfl⟩
    go_wp2_with fail
    refine (room_mid _ 131072 _ (by omega) (by omega) (by omega) (by omega)).mono ?_
    rintro e w' ⟨rfl, rfl⟩
    go_wp2_with fail
    refine (room_low _ _ (by omega) (by omega)).mono ?_
    rintro e w' ⟨rfl, rfl⟩
    go_wp2_with fail
    refine (room_high _ _ (by omega) top_le top_high).mono ?_
    rintro e w' ⟨rfl, rfl⟩
    go_wp2
    go_ret
    exact ⟨rfl, Grown.refl _⟩
  by_cases h2 : 6291456 < a0 / 4
  · skip
    go_enter Try.func3, Try.ntmps3
    go_wp2_with fail
    refine (room_high _ _ bd.1 bd.2 h2).mono ?_
    rintro e w' ⟨rfl, rfl⟩
    go_wp2_with fail
    refine (room_mid _ 6291456 _ (by omega) (by omega) (by omega) (by omega)).mono ?_
    rintro e w' ⟨rfl, rfl⟩
    go_wp2_with fail
    refine (room_low _ _ (by omega) (by omega)).mono ?_
    rintro e w' ⟨rfl, rfl⟩
    go_wp2_with fail
    refine (room_high _ _ (by omega) top_le top_high).mono ?_
    rintro e w' ⟨rfl, rfl⟩
    go_wp2
    go_ret
    exact ⟨rfl, Grown.refl _⟩
  by_cases h3 : a0 / 4 = 131072
  · have h3' : (a0 / 4 != 131072) = false := by rw [h3]; rfl
    have h4' : (a0 / 4 != 6291456) = true := by rw [h3]; rfl
    have H3 : Hid (a0 / 4 = 131072) := h3
    clear h3
    go_enter Try.func3, Try.ntmps3
    go_wp2_with fail
    refine (room_mid _ (a0 / 4) _ bd.1 (by omega) (by omega) rfl).mono ?_
    rintro e w' ⟨rfl, rfl⟩
    go_wp2_with fail
    refine (room_mid _ (a0 / 4) _ (by omega) (by omega) (by omega) (by omega)).mono ?_
    rintro e w' ⟨rfl, rfl⟩
    go_wp2_with fail
    refine (room_low _ _ (by omega) (by omega)).mono ?_
    rintro e w' ⟨rfl, rfl⟩
    go_wp2_with fail
    refine (room_high _ _ (by omega) top_le top_high).mono ?_
    rintro e w' ⟨rfl, rfl⟩
    go_wp2
    go_ret
    exact ⟨rfl, Grown.refl _⟩
  have h3' : (a0 / 4 != 131072) = true := by simpa using h3
  by_cases h4 : a0 / 4 = 6291456
  · have h4' : (a0 / 4 != 6291456) = false := by rw [h4]; rfl
    have H4 : Hid (a0 / 4 = 6291456) := h4
    clear h4
    go_enter Try.func3, Try.ntmps3
    go_wp2_with fail
    refine (room_mid _ (a0 / 4) _ bd.1 (by omega) (by omega) rfl).mono ?_
    rintro e w' ⟨rfl, rfl⟩
    go_wp2_with fail
    refine (room_mid _ (a0 / 4) _ (by omega) (by omega) (by omega) (by omega)).mono ?_
    rintro e w' ⟨rfl, rfl⟩
    go_wp2_with fail
    refine (room_low _ _ (by omega) (by omega)).mono ?_
    rintro e w' ⟨rfl, rfl⟩
    go_wp2_with fail
    refine (room_high _ _ (by omega) top_le top_high).mono ?_
    rintro e w' ⟨rfl, rfl⟩
    go_wp2
    go_ret
    exact ⟨rfl, Grown.refl _⟩
  · have h4' : (a0 / 4 != 6291456) = true := by simpa using h4
    go_enter Try.func3, Try.ntmps3
    go_wp2_with fail
    refine (room_mid _ (a0 / 4) _ bd.1 (by omega) (by omega) rfl).mono ?_
    rintro e w' ⟨rfl, rfl⟩
    go_wp2_with fail
    refine (room_mid _ (a0 / 4) _ (by omega) (by omega) (by omega) (by omega)).mono ?_
    rintro e w' ⟨rfl, rfl⟩
    go_wp2_with fail
    refine (room_low _ _ (by omega) (by omega)).mono ?_
    rintro e w' ⟨rfl, rfl⟩
    go_wp2_with fail
    refine (room_high _ _ (by omega) top_le top_high).mono ?_
    rintro e w' ⟨rfl, rfl⟩
    go_wp2
    go_ret
    exact ⟨rfl, Grown.refl _⟩

/-! ### THE ROW's STEP: WRITTEN OUT: LEAVE IT -/
set_option maxRecDepth 100000 in
theorem lifted (os : Os) (started : os.Started) (H : Type) (enc : TypeId × Value → H) :
    ReturnsInHanded {} Try.checked os 3 .any (Rows.fnRoomIsNearestPointAndNamesItsRegionSpec.pre6 enc Try.prog Try.f3 Rows.fnRoomIsNearestPointAndNamesItsRegionRow.domain false) (Rows.fnRoomIsNearestPointAndNamesItsRegionSpec.post enc Try.prog Try.f3 false true false false) := by
  refine returnsInHanded_of_change (C := Try.checked) own started (by kernel_rfl) Try.func3
    (ChangeSpec.witness6 (enc := enc) (C := Try.checked) false ⟨#[], #[.int .u64 0], []⟩ 8 (by kernel_rfl) (by kernel_rfl) (by kernel_rfl) (by kernel_rfl)) ?_
  intro W base args ds gs before hval0 hW hcnd _
  have hval : ∀ (j : Nat) t v, Try.f3.params[j]? = some t → args[j]? = some v → Value.okWide Try.prog W .any base t v := hval0
  have hW' := hW
  obtain ⟨p, q, hA0, hV, rfl, hfz, hnd⟩ := hW
  have hA : DataW.TrodAll enc Try.prog W 0 (fun _ => true) true Try.f3.params.toList args.toList ds p := hA0
  rw [Try.params3] at hA hval
  obtain ⟨v0, vs0, d0, ds0, p0, q0, hargs, rfl, rfl, h0, r0⟩ := trodAll_cons hA
  obtain ⟨rfl, rfl, rfl⟩ := trodAll_nil r0
  obtain rfl : args = #[v0] := by cases args; simp_all
  obtain ⟨rfl, rfl⟩ := trodVars_none hV
  obtain ⟨a0, rfl, rfl, rfl, w0⟩ := open_int Try.underlying22 (hval 0 22 v0 rfl rfl) h0
  clear hA0 hval0
  simp only [List.append_nil] at hW'
  refine (walk a0 w0 W).mono fun e W' ⟨he, hg⟩ => ?_
  subst he
  exact ⟨_, rfl, post_of_same (pa := []) (pv := []) hW' (fun _ _ _ => (trodAll_cons_mk (shut_bool Try.underlying4 _) trodAll_mk0)) (fun sp _ => (trodAll_cons_mk (shut_int Try.underlying22 w0) trodAll_mk0)) (fun _ _ => rfl) rfl
    (hg.frame _) hg.2.1 (ok_one (by kernel_rfl) rfl (okWide_bool_mk Try.underlying4 _))⟩

theorem over : Rows.fnRoomIsNearestPointAndNamesItsRegionRow.holds Try.pinned (OpenSpec.ofChange Rows.fnRoomIsNearestPointAndNamesItsRegionSpec) :=
  OpenClaim.holds_of_wide 3 Try.f3 rfl rfl rfl rfl rfl rfl rfl ⟨rfl, rfl, rfl, rfl, rfl⟩ rfl rfl rfl rfl rfl (by kernel_rfl) Try.func3 (by kernel_rfl)
    (of_decide_eq_true (by kernel_rfl)) (by unfold Func.isWrapper; first | (rw [if_pos (by decide +kernel)]; kernel_rfl) | (rw [if_neg (by decide +kernel)]; exact ⟨rfl, rfl⟩))
    (fun os started H enc _ => lifted os started H enc)

/-- ████ THE STATEMENT ████ -/
theorem proved : Rows.FnRoomIsNearestPointAndNamesItsRegionSaid :=
  over
end Go.Proofs.Qxb6628750a.fnRoomIsNearestPointAndNamesItsRegion
