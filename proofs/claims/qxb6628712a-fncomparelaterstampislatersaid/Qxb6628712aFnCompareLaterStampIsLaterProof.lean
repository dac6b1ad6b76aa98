/-
  A proof of 'Rows.FnCompareLaterStampIsLaterSaid'. The frame is the guide's own shell at this function's number and types; the walk is ours.
-/
import Derived.Test.Qxb6628712aRows
import Derived.WalkKit
import Derived.ProofKit
import Derived.OpenShut
import Derived.ShutString
import Derived.ChangeOld
import Derived.Below
import Derived.Test.Qxb6628712aStamp
namespace Go.Proofs.Qxb6628712a.fnCompareLaterStampIsLater
open Go.ChangeShapes Go.WideShapes Go.ChangeAt Go.RowKit
open Go.ChangeMaps (open_string shut_string)
set_option linter.unusedVariables false      -- a walk need not use every 'w<i>' (that an integer argument fits its kind)

theorem own : ownKnob Try.prog.godebug = none := by kernel_rfl

/-! ### STEP 1: THE WALK: the Go text returns true; of what was there nothing has turned. -/
set_option maxHeartbeats 400000 in
theorem walk (a0 : Int) (a1 : Int) (a2 : Int) (a3 : Int) (w0 : (Lit.int .i64 a0).wf = true) (w1 : (Lit.int .i64 a1).wf = true) (w2 : (Lit.int .i64 a2).wf = true) (w3 : (Lit.int .i64 a3).wf = true) (w : World) :
    Calls Try.prog 3 #[.int .i64 a0, .int .i64 a1, .int .i64 a2, .int .i64 a3] w fun e w' => e = .returned (.bool true) ∧ Below w.heap.size w w' := by
  have b0 := bounds_i64 w0
  have b2 := bounds_i64 w2
  clear w0 w1 w2 w3
  by_cases g1 : a1 < 0
  · go_enter Try.func3, Try.ntmps3
    go_wp2
    go_ret
    exact ⟨rfl, Below.refl _ _⟩
  by_cases g2 : 2000000000 ≤ a1
  · go_enter Try.func3, Try.ntmps3
    go_wp2
    go_ret
    exact ⟨rfl, Below.refl _ _⟩
  by_cases g3 : a3 < 0
  · go_enter Try.func3, Try.ntmps3
    go_wp2
    go_ret
    exact ⟨rfl, Below.refl _ _⟩
  by_cases g4 : 2000000000 ≤ a3
  · go_enter Try.func3, Try.ntmps3
    go_wp2
    go_ret
    exact ⟨rfl, Below.refl _ _⟩
  by_cases g5 : a2 < 0
  · go_enter Try.func3, Try.ntmps3
    go_wp2
    go_ret
    exact ⟨rfl, Below.refl _ _⟩
  by_cases g6 : 9223372036854775807 - a2 < a0
  · go_enter Try.func3, Try.ntmps3
    go_wp2
    go_ret
    exact ⟨rfl, Below.refl _ _⟩
  have hin : -9223372036854775808 ≤ a0 + a2 ∧ a0 + a2 ≤ 9223372036854775807 := by omega
  by_cases g7 : a2 = 0
  · have g7' : (a2 == 0) = true := by simpa using g7
    by_cases g8 : a3 ≤ a1
    · clear g7
      go_enter Try.func3, Try.ntmps3
      go_wp2
      go_ret
      exact ⟨rfl, Below.refl _ _⟩
    · skip
      have H1 : Hid (cmp a0 a1 (a0 + a2) a3 = -1) := cmp_lt (by omega)
      have H2 : Hid (cmp (a0 + a2) a3 a0 a1 = 1) := cmp_gt (by omega)
      have H3 : Hid (cmp a0 a1 a0 a1 = 0) := cmp_eq _ _
      have H4 : Hid (cmp (a0 + a2) a3 (a0 + a2) a3 = 0) := cmp_eq _ _
      clear g7
      go_enter Try.func3, Try.ntmps3
      go_wp2_with fail
      refine (new_any _ _ _).mono ?_
      rintro e W1 ⟨rfl, b1⟩
      go_wp2_with fail
      refine (new_any _ _ _).mono ?_
      rintro e W2 ⟨rfl, b2⟩
      have P1 : Pt (W2.alloc (.cells #[.int .i64 (a0 + a2), .int .i64 a3] 23)) W1.heap.size a0 a1 := ((Pt.new W1 a0 a1).keep b2).old _
      have P2 : Pt (W2.alloc (.cells #[.int .i64 (a0 + a2), .int .i64 a3] 23)) W2.heap.size (a0 + a2) a3 := Pt.new W2 (a0 + a2) a3
      have B2 := stepA (step (stepA b1 _) b2) (.cells #[.int .i64 (a0 + a2), .int .i64 a3] 23)
      obtain ⟨p1, p2, p3⟩ := (Pt.new W1 a0 a1).keep b2
      clear b1 b2
      go_wp2_with fail
      refine (compare_is _ _ _ _ (-1) H1.out _).mono ?_
      rintro e W3 ⟨rfl, b3⟩
      clear p1 p2 p3
      have Q1 := P1.keep b3
      have Q2 := P2.keep b3
      have B3 := step B2 b3
      clear P1 P2 B2 b3
      obtain ⟨p1, p2, p3⟩ := Q1
      obtain ⟨q1, q2, q3⟩ := Q2
      have Q1 : Pt W3 W1.heap.size a0 a1 := ⟨p1, p2, p3⟩
      have Q2 : Pt W3 W2.heap.size (a0 + a2) a3 := ⟨q1, q2, q3⟩
      go_wp2_with fail
      refine (compare_is _ _ _ _ 1 H2.out _).mono ?_
      rintro e W4 ⟨rfl, b4⟩
      clear p1 p2 p3 q1 q2 q3
      have R1 := Q1.keep b4
      have R2 := Q2.keep b4
      have B4 := step B3 b4
      clear Q1 Q2 B3 b4
      obtain ⟨p1, p2, p3⟩ := R1
      obtain ⟨q1, q2, q3⟩ := R2
      have R2 : Pt W4 W2.heap.size (a0 + a2) a3 := ⟨q1, q2, q3⟩
      go_wp2_with fail
      refine (compare_is _ _ _ _ 0 H3.out _).mono ?_
      rintro e W5 ⟨rfl, b5⟩
      clear p1 p2 p3 q1 q2 q3
      have S2 := R2.keep b5
      have B5 := step B4 b5
      clear R2 B4 b5
      obtain ⟨q1, q2, q3⟩ := S2
      go_wp2_with fail
      refine (compare_is _ _ _ _ 0 H4.out _).mono ?_
      rintro e W6 ⟨rfl, b6⟩
      go_wp2
      go_ret
      exact ⟨rfl, step B5 b6⟩
  · have g7' : (a2 == 0) = false := by simpa using g7
    have H1 : Hid (cmp a0 a1 (a0 + a2) a3 = -1) := cmp_lt (by omega)
    have H2 : Hid (cmp (a0 + a2) a3 a0 a1 = 1) := cmp_gt (by omega)
    have H3 : Hid (cmp a0 a1 a0 a1 = 0) := cmp_eq _ _
    have H4 : Hid (cmp (a0 + a2) a3 (a0 + a2) a3 = 0) := cmp_eq _ _
    clear g7
    go_enter Try.func3, Try.ntmps3
    go_wp2_with fail
    refine (new_any _ _ _).mono ?_
    rintro e W1 ⟨rfl, b1⟩
    go_wp2_with fail
    refine (new_any _ _ _).mono ?_
    rintro e W2 ⟨rfl, b2⟩
    have P1 : Pt (W2.alloc (.cells #[.int .i64 (a0 + a2), .int .i64 a3] 23)) W1.heap.size a0 a1 := ((Pt.new W1 a0 a1).keep b2).old _
    have P2 : Pt (W2.alloc (.cells #[.int .i64 (a0 + a2), .int .i64 a3] 23)) W2.heap.size (a0 + a2) a3 := Pt.new W2 (a0 + a2) a3
    have B2 := stepA (step (stepA b1 _) b2) (.cells #[.int .i64 (a0 + a2), .int .i64 a3] 23)
    obtain ⟨p1, p2, p3⟩ := (Pt.new W1 a0 a1).keep b2
    clear b1 b2
    go_wp2_with fail
    refine (compare_is _ _ _ _ (-1) H1.out _).mono ?_
    rintro e W3 ⟨rfl, b3⟩
    clear p1 p2 p3
    have Q1 := P1.keep b3
    have Q2 := P2.keep b3
    have B3 := step B2 b3
    clear P1 P2 B2 b3
    obtain ⟨p1, p2, p3⟩ := Q1
    obtain ⟨q1, q2, q3⟩ := Q2
    have Q1 : Pt W3 W1.heap.size a0 a1 := ⟨p1, p2, p3⟩
    have Q2 : Pt W3 W2.heap.size (a0 + a2) a3 := ⟨q1, q2, q3⟩
    go_wp2_with fail
    refine (compare_is _ _ _ _ 1 H2.out _).mono ?_
    rintro e W4 ⟨rfl, b4⟩
    clear p1 p2 p3 q1 q2 q3
    have R1 := Q1.keep b4
    have R2 := Q2.keep b4
    have B4 := step B3 b4
    clear Q1 Q2 B3 b4
    obtain ⟨p1, p2, p3⟩ := R1
    obtain ⟨q1, q2, q3⟩ := R2
    have R2 : Pt W4 W2.heap.size (a0 + a2) a3 := ⟨q1, q2, q3⟩
    go_wp2_with fail
    refine (compare_is _ _ _ _ 0 H3.out _).mono ?_
    rintro e W5 ⟨rfl, b5⟩
    clear p1 p2 p3 q1 q2 q3
    have S2 := R2.keep b5
    have B5 := step B4 b5
    clear R2 B4 b5
    obtain ⟨q1, q2, q3⟩ := S2
    go_wp2_with fail
    refine (compare_is _ _ _ _ 0 H4.out _).mono ?_
    rintro e W6 ⟨rfl, b6⟩
    go_wp2
    go_ret
    exact ⟨rfl, step B5 b6⟩

/-! ### THE ROW's STEP: WRITTEN OUT: LEAVE IT -/
set_option maxRecDepth 100000 in
theorem lifted (os : Os) (started : os.Started) (H : Type) (enc : TypeId × Value → H) :
    ReturnsInHanded {} Try.checked os 3 .any (Rows.fnCompareLaterStampIsLaterSpec.pre6 enc Try.prog Try.f3 Rows.fnCompareLaterStampIsLaterRow.domain false) (Rows.fnCompareLaterStampIsLaterSpec.post enc Try.prog Try.f3 false true false false) := by
  refine returnsInHanded_of_change (C := Try.checked) own started (by kernel_rfl) Try.func3
    (ChangeSpec.witness6 (enc := enc) (C := Try.checked) false ⟨#[], #[.int .i64 0, .int .i64 0, .int .i64 0, .int .i64 0], []⟩ 8 (by kernel_rfl) (by kernel_rfl) (by kernel_rfl) (by kernel_rfl)) ?_
  intro W base args ds gs before hval0 hW hcnd _
  have hval : ∀ (j : Nat) t v, Try.f3.params[j]? = some t → args[j]? = some v → Value.okWide Try.prog W .any base t v := hval0
  have hW' := hW
  obtain ⟨p, q, hA0, hV, rfl, hfz, hnd⟩ := hW
  have hA : DataW.TrodAll enc Try.prog W 0 (fun _ => true) true Try.f3.params.toList args.toList ds p := hA0
  rw [Try.params3] at hA hval
  obtain ⟨v0, vs0, d0, ds0, p0, q0, hargs, rfl, rfl, h0, r0⟩ := trodAll_cons hA
  obtain ⟨v1, vs1, d1, ds1, p1, q1, rfl, rfl, rfl, h1, r1⟩ := trodAll_cons r0
  obtain ⟨v2, vs2, d2, ds2, p2, q2, rfl, rfl, rfl, h2, r2⟩ := trodAll_cons r1
  obtain ⟨v3, vs3, d3, ds3, p3, q3, rfl, rfl, rfl, h3, r3⟩ := trodAll_cons r2
  obtain ⟨rfl, rfl, rfl⟩ := trodAll_nil r3
  obtain rfl : args = #[v0, v1, v2, v3] := by cases args; simp_all
  obtain ⟨rfl, rfl⟩ := trodVars_none hV
  obtain ⟨a0, rfl, rfl, rfl, w0⟩ := open_int Try.underlying2 (hval 0 2 v0 rfl rfl) h0
  obtain ⟨a1, rfl, rfl, rfl, w1⟩ := open_int Try.underlying2 (hval 1 2 v1 rfl rfl) h1
  obtain ⟨a2, rfl, rfl, rfl, w2⟩ := open_int Try.underlying2 (hval 2 2 v2 rfl rfl) h2
  obtain ⟨a3, rfl, rfl, rfl, w3⟩ := open_int Try.underlying2 (hval 3 2 v3 rfl rfl) h3
  clear hA0 hval0
  refine (walk a0 a1 a2 a3 w0 w1 w2 w3 W).mono fun e W' ⟨he, bel⟩ => ?_
  subst he
  exact ⟨_, rfl, _, _, _, [], _, [], hW', trodAll_mk1 (shut_bool Try.underlying4 _), (trodAll_cons_mk (shut_int Try.underlying2 w0) (trodAll_cons_mk (shut_int Try.underlying2 w1) (trodAll_cons_mk (shut_int Try.underlying2 w2) (trodAll_cons_mk (shut_int Try.underlying2 w3) trodAll_mk0)))), rfl, bel.frame _, fun h => by cases h⟩

theorem over : Rows.fnCompareLaterStampIsLaterRow.holds Try.pinned (OpenSpec.ofChange Rows.fnCompareLaterStampIsLaterSpec) :=
  OpenClaim.holds_of_wide 3 Try.f3 rfl rfl rfl rfl rfl rfl rfl ⟨rfl, rfl, rfl, rfl, rfl⟩ rfl rfl rfl rfl rfl (by kernel_rfl) Try.func3 (by kernel_rfl)
    (of_decide_eq_true (by kernel_rfl)) (by unfold Func.isWrapper; first | (rw [if_pos (by decide +kernel)]; kernel_rfl) | (rw [if_neg (by decide +kernel)]; exact ⟨rfl, rfl⟩))
    (fun os started H enc _ => lifted os started H enc)

/-- ████ THE STATEMENT ████ -/
theorem proved : Rows.FnCompareLaterStampIsLaterSaid :=
  over
end Go.Proofs.Qxb6628712a.fnCompareLaterStampIsLater
