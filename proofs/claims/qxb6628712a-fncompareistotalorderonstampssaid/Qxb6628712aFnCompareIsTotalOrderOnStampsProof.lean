/-
  A proof of 'Rows.FnCompareIsTotalOrderOnStampsSaid'. The frame is the guide's own shell at this function's number and types; the walk is ours.
-/
import Derived.Test.Qxb6628712aRows
import Derived.WalkKit
import Derived.ProofKit
import Derived.OpenShut
import Derived.ShutString
import Derived.ChangeOld
import Derived.Below
import Derived.Test.Qxb6628712aStamp
namespace Go.Proofs.Qxb6628712a.fnCompareIsTotalOrderOnStamps
open Go.ChangeShapes Go.WideShapes Go.ChangeAt Go.RowKit
open Go.ChangeMaps (open_string shut_string)
set_option linter.unusedVariables false      -- a walk need not use every 'w<i>' (that an integer argument fits its kind)

theorem own : ownKnob Try.prog.godebug = none := by kernel_rfl

/-! ### STEP 1: THE WALK: the Go text returns true; of what was there nothing has turned. -/
theorem sign_yes (x : Int) (h : x = -1 ∨ x = 0 ∨ x = 1) (w : World) :
    Calls Try.prog 7 #[.int .i64 x] w fun e w' => e = .returned (.bool true) ∧ w = w' := by
  rcases h with rfl | rfl | rfl
  all_goals
    go_enter Try.func7, Try.ntmps7
    go_wp2
    go_ret
    exact ⟨rfl, rfl⟩

theorem bad (x a b : Int) (h : (!(x == 0) == (a == b)) = true) : (x = 0 ∧ ¬ a = b) ∨ (¬ x = 0 ∧ a = b) := by
  by_cases h1 : x = 0
  · by_cases h2 : a = b
    · rw [beq_iff_eq.2 h1, beq_iff_eq.2 h2] at h; cases h
    · exact .inl ⟨h1, h2⟩
  · by_cases h2 : a = b
    · exact .inr ⟨h1, h2⟩
    · rw [beq_eq_false_iff_ne.2 h1, beq_eq_false_iff_ne.2 h2] at h; cases h

/-- what is known of how (a, b) stands to (c, d) -/
theorem cmp_cases (a b c d : Int) : (cmp a b c d = -1 ∧ (a < c ∨ (a = c ∧ b < d))) ∨ (cmp a b c d = 0 ∧ a = c ∧ b = d) ∨ (cmp a b c d = 1 ∧ (c < a ∨ (c = a ∧ d < b))) := by
  by_cases h1 : a < c ∨ (a = c ∧ b < d)
  · exact .inl ⟨cmp_lt h1, h1⟩
  · by_cases h2 : c < a ∨ (c = a ∧ d < b)
    · exact .inr (.inr ⟨cmp_gt h2, h2⟩)
    · obtain rfl : a = c := by omega
      obtain rfl : b = d := by omega
      exact .inr (.inl ⟨cmp_eq _ _, rfl, rfl⟩)

theorem cmp_neg (a b c d : Int) : cmp c d a b = - cmp a b c d := by
  rcases cmp_cases a b c d with ⟨h, k⟩ | ⟨h, rfl, rfl⟩ | ⟨h, k⟩
  · rw [h, cmp_gt k]; rfl
  · rw [h]; rfl
  · rw [h, cmp_lt k]

set_option maxHeartbeats 2000000 in
set_option maxRecDepth 100000 in
theorem bodyWalk (a0 a1 a2 a3 a4 a5 : Int) (g1 : ¬ a1 < 0) (g2 : ¬ 2000000000 ≤ a1) (g3 : ¬ a3 < 0) (g4 : ¬ 2000000000 ≤ a3) (g5 : ¬ a5 < 0) (g6 : ¬ 2000000000 ≤ a5) (w : World) :
    Calls Try.prog 4 #[.int .i64 a0, .int .i64 a1, .int .i64 a2, .int .i64 a3, .int .i64 a4, .int .i64 a5] w fun e w' => e = .returned (.bool true) ∧ Below w.heap.size w w' := by
  have fab : Hid _ := cmp_cases a0 a1 a2 a3
  have fbc : Hid _ := cmp_cases a2 a3 a4 a5
  have fac : Hid _ := cmp_cases a0 a1 a4 a5
  have nab : Hid _ := cmp_neg a0 a1 a2 a3
  have nbc : Hid _ := cmp_neg a2 a3 a4 a5
  have nac : Hid _ := cmp_neg a0 a1 a4 a5
  have vab : Hid (cmp a0 a1 a2 a3 = cmp a0 a1 a2 a3) := rfl
  have vbc : Hid (cmp a2 a3 a4 a5 = cmp a2 a3 a4 a5) := rfl
  have vac : Hid (cmp a0 a1 a4 a5 = cmp a0 a1 a4 a5) := rfl
  generalize ex : cmp a0 a1 a2 a3 = x at fab nab
  generalize ey : cmp a2 a3 a4 a5 = y at fbc nbc
  generalize ez : cmp a0 a1 a4 a5 = z at fac nac
  have EX : Hid _ := ex
  have EY : Hid _ := ey
  have EZ : Hid _ := ez
  clear ex ey ez vab vbc vac
  have bx : -1 ≤ x ∧ x ≤ 1 := by have := fab.out; omega
  have bY : -1 ≤ y ∧ y ≤ 1 := by have := fbc.out; omega
  have bz : -1 ≤ z ∧ z ≤ 1 := by have := fac.out; omega
  go_enter Try.func4, Try.ntmps4
  go_wp2_with fail
  refine (new_any _ _ _).mono ?_
  rintro e W1 ⟨rfl, b1⟩
  go_wp2_with fail
  refine (new_any _ _ _).mono ?_
  rintro e W2 ⟨rfl, b2⟩
  have P1 := (Pt.new W1 a0 a1).keep b2
  have B2 := step (stepA b1 _) b2
  clear b1 b2
  go_wp2_with fail
  refine (new_any _ _ _).mono ?_
  rintro e W3 ⟨rfl, b3⟩
  have P1' := (P1.old _).keep b3
  have P2' := (Pt.new W2 a2 a3).keep b3
  have B3 := step (stepA B2 _) b3
  clear P1 B2 b3
  have A1 := P1'.old (.cells #[.int .i64 a4, .int .i64 a5] 23)
  have A2 := P2'.old (.cells #[.int .i64 a4, .int .i64 a5] 23)
  have A3 := Pt.new W3 a4 a5
  have B4 := stepA B3 (.cells #[.int .i64 a4, .int .i64 a5] 23)
  obtain ⟨p1, p2, p3⟩ := P1'
  obtain ⟨q1, q2, q3⟩ := P2'
  clear B3
  go_wp2_with fail
  refine (compare_is _ _ _ _ x EX.out _).mono ?_
  rintro e W4 ⟨rfl, b4⟩
  clear p1 p2 p3 q1 q2 q3
  replace A1 := A1.keep b4
  replace A2 := A2.keep b4
  replace A3 := A3.keep b4
  have B5 := step B4 b4
  clear B4 b4
  obtain ⟨p1, p2, p3⟩ := A1
  obtain ⟨q1, q2, q3⟩ := A2
  obtain ⟨r1, r2, r3⟩ := A3
  have A1 : Pt W4 W1.heap.size a0 a1 := ⟨p1, p2, p3⟩
  have A2 : Pt W4 W2.heap.size a2 a3 := ⟨q1, q2, q3⟩
  have A3 : Pt W4 W3.heap.size a4 a5 := ⟨r1, r2, r3⟩
  go_wp2_with fail
  refine (compare_is _ _ _ _ (-x) (nab.out) _).mono ?_
  rintro e W5 ⟨rfl, b5⟩
  clear p1 p2 p3 q1 q2 q3 r1 r2 r3
  replace A1 := A1.keep b5
  replace A2 := A2.keep b5
  replace A3 := A3.keep b5
  have B6 := step B5 b5
  clear B5 b5
  obtain ⟨p1, p2, p3⟩ := A1
  obtain ⟨q1, q2, q3⟩ := A2
  obtain ⟨r1, r2, r3⟩ := A3
  have A1 : Pt W5 W1.heap.size a0 a1 := ⟨p1, p2, p3⟩
  have A2 : Pt W5 W2.heap.size a2 a3 := ⟨q1, q2, q3⟩
  have A3 : Pt W5 W3.heap.size a4 a5 := ⟨r1, r2, r3⟩
  go_wp2_with fail
  refine (compare_is _ _ _ _ y EY.out _).mono ?_
  rintro e W6 ⟨rfl, b6⟩
  clear p1 p2 p3 q1 q2 q3 r1 r2 r3
  replace A1 := A1.keep b6
  replace A2 := A2.keep b6
  replace A3 := A3.keep b6
  have B7 := step B6 b6
  clear B6 b6
  obtain ⟨p1, p2, p3⟩ := A1
  obtain ⟨q1, q2, q3⟩ := A2
  obtain ⟨r1, r2, r3⟩ := A3
  have A1 : Pt W6 W1.heap.size a0 a1 := ⟨p1, p2, p3⟩
  have A2 : Pt W6 W2.heap.size a2 a3 := ⟨q1, q2, q3⟩
  have A3 : Pt W6 W3.heap.size a4 a5 := ⟨r1, r2, r3⟩
  go_wp2_with fail
  refine (compare_is _ _ _ _ (-y) (nbc.out) _).mono ?_
  rintro e W7 ⟨rfl, b7⟩
  clear p1 p2 p3 q1 q2 q3 r1 r2 r3
  replace A1 := A1.keep b7
  replace A2 := A2.keep b7
  replace A3 := A3.keep b7
  have B8 := step B7 b7
  clear B7 b7
  obtain ⟨p1, p2, p3⟩ := A1
  obtain ⟨q1, q2, q3⟩ := A2
  obtain ⟨r1, r2, r3⟩ := A3
  have A1 : Pt W7 W1.heap.size a0 a1 := ⟨p1, p2, p3⟩
  have A2 : Pt W7 W2.heap.size a2 a3 := ⟨q1, q2, q3⟩
  have A3 : Pt W7 W3.heap.size a4 a5 := ⟨r1, r2, r3⟩
  go_wp2_with fail
  refine (compare_is _ _ _ _ z EZ.out _).mono ?_
  rintro e W8 ⟨rfl, b8⟩
  clear p1 p2 p3 q1 q2 q3 r1 r2 r3
  replace A1 := A1.keep b8
  replace A2 := A2.keep b8
  replace A3 := A3.keep b8
  have B9 := step B8 b8
  clear B8 b8
  obtain ⟨p1, p2, p3⟩ := A1
  obtain ⟨q1, q2, q3⟩ := A2
  obtain ⟨r1, r2, r3⟩ := A3
  have A1 : Pt W8 W1.heap.size a0 a1 := ⟨p1, p2, p3⟩
  have A2 : Pt W8 W2.heap.size a2 a3 := ⟨q1, q2, q3⟩
  have A3 : Pt W8 W3.heap.size a4 a5 := ⟨r1, r2, r3⟩
  go_wp2_with fail
  refine (compare_is _ _ _ _ (-z) (nac.out) _).mono ?_
  rintro e W9 ⟨rfl, b9⟩
  clear p1 p2 p3 q1 q2 q3 r1 r2 r3
  replace A1 := A1.keep b9
  replace A2 := A2.keep b9
  replace A3 := A3.keep b9
  have B10 := step B9 b9
  clear B9 b9
  obtain ⟨p1, p2, p3⟩ := A1
  obtain ⟨q1, q2, q3⟩ := A2
  obtain ⟨r1, r2, r3⟩ := A3
  have A1 : Pt W9 W1.heap.size a0 a1 := ⟨p1, p2, p3⟩
  have A2 : Pt W9 W2.heap.size a2 a3 := ⟨q1, q2, q3⟩
  have A3 : Pt W9 W3.heap.size a4 a5 := ⟨r1, r2, r3⟩
  go_wp2_with fail
  refine (sign_yes _ (by have := fab.out; omega) _).mono ?_
  rintro e W' ⟨rfl, rfl⟩
  go_wp2_with fail
  refine (sign_yes _ (by have := fab.out; omega) _).mono ?_
  rintro e W' ⟨rfl, rfl⟩
  go_wp2_with fail
  refine (sign_yes _ (by have := fbc.out; omega) _).mono ?_
  rintro e W' ⟨rfl, rfl⟩
  go_wp2_with fail
  refine (sign_yes _ (by have := fbc.out; omega) _).mono ?_
  rintro e W' ⟨rfl, rfl⟩
  go_wp2_with fail
  refine (sign_yes _ (by have := fac.out; omega) _).mono ?_
  rintro e W' ⟨rfl, rfl⟩
  go_wp2_with fail
  refine (sign_yes _ (by have := fac.out; omega) _).mono ?_
  rintro e W' ⟨rfl, rfl⟩
  go_wp2_with fail
  refine (compare_is _ _ _ _ 0 (cmp_eq _ _) _).mono ?_
  rintro e W10 ⟨rfl, b10⟩
  clear p1 p2 p3 q1 q2 q3 r1 r2 r3
  replace A1 := A1.keep b10
  replace A2 := A2.keep b10
  replace A3 := A3.keep b10
  have B11 := step B10 b10
  clear B10 b10
  obtain ⟨p1, p2, p3⟩ := A1
  obtain ⟨q1, q2, q3⟩ := A2
  obtain ⟨r1, r2, r3⟩ := A3
  have A1 : Pt W10 W1.heap.size a0 a1 := ⟨p1, p2, p3⟩
  have A2 : Pt W10 W2.heap.size a2 a3 := ⟨q1, q2, q3⟩
  have A3 : Pt W10 W3.heap.size a4 a5 := ⟨r1, r2, r3⟩
  go_wp2_with fail
  refine (compare_is _ _ _ _ 0 (cmp_eq _ _) _).mono ?_
  rintro e W11 ⟨rfl, b11⟩
  clear p1 p2 p3 q1 q2 q3 r1 r2 r3
  replace A1 := A1.keep b11
  replace A2 := A2.keep b11
  replace A3 := A3.keep b11
  have B12 := step B11 b11
  clear B11 b11
  obtain ⟨p1, p2, p3⟩ := A1
  obtain ⟨q1, q2, q3⟩ := A2
  obtain ⟨r1, r2, r3⟩ := A3
  have A1 : Pt W11 W1.heap.size a0 a1 := ⟨p1, p2, p3⟩
  have A2 : Pt W11 W2.heap.size a2 a3 := ⟨q1, q2, q3⟩
  have A3 : Pt W11 W3.heap.size a4 a5 := ⟨r1, r2, r3⟩
  go_wp2_with fail
  refine (compare_is _ _ _ _ 0 (cmp_eq _ _) _).mono ?_
  rintro e W12 ⟨rfl, b12⟩
  clear p1 p2 p3 q1 q2 q3 r1 r2 r3
  replace A1 := A1.keep b12
  replace A2 := A2.keep b12
  replace A3 := A3.keep b12
  have B13 := step B12 b12
  clear B12 b12
  clear A1 A2 A3 EX EY EZ nab nbc nac g1 g2 g3 g4 g5 g6
  have BB : Hid (Below w.heap.size w W12) := B13
  clear B13
  have f1 := fab.out
  have f2 := fbc.out
  have f3 := fac.out
  clear fab fbc fac
  go_wp2
  all_goals
    go_ret
    refine ⟨ret_bool ?_, BB.out⟩
    first
      | rfl
      | exact absurd (bad x a1 a3 (by assumption)) (by omega)
      | exact absurd (bad y a3 a5 (by assumption)) (by omega)
      | exact absurd (bad z a1 a5 (by assumption)) (by omega)

set_option maxHeartbeats 400000 in
set_option maxRecDepth 100000 in
theorem walk (a0 : Int) (a1 : Int) (a2 : Int) (a3 : Int) (a4 : Int) (a5 : Int) (w0 : (Lit.int .i64 a0).wf = true) (w1 : (Lit.int .i64 a1).wf = true) (w2 : (Lit.int .i64 a2).wf = true) (w3 : (Lit.int .i64 a3).wf = true) (w4 : (Lit.int .i64 a4).wf = true) (w5 : (Lit.int .i64 a5).wf = true) (w : World) :
    Calls Try.prog 4 #[.int .i64 a0, .int .i64 a1, .int .i64 a2, .int .i64 a3, .int .i64 a4, .int .i64 a5] w fun e w' => e = .returned (.bool true) ∧ Below w.heap.size w w' := by
  clear w0 w1 w2 w3 w4 w5
  by_cases g1 : a1 < 0
  · go_enter Try.func4, Try.ntmps4
    go_wp2
    go_ret
    exact ⟨rfl, Below.refl _ _⟩
  by_cases g2 : 2000000000 ≤ a1
  · go_enter Try.func4, Try.ntmps4
    go_wp2
    go_ret
    exact ⟨rfl, Below.refl _ _⟩
  by_cases g3 : a3 < 0
  · go_enter Try.func4, Try.ntmps4
    go_wp2
    go_ret
    exact ⟨rfl, Below.refl _ _⟩
  by_cases g4 : 2000000000 ≤ a3
  · go_enter Try.func4, Try.ntmps4
    go_wp2
    go_ret
    exact ⟨rfl, Below.refl _ _⟩
  by_cases g5 : a5 < 0
  · go_enter Try.func4, Try.ntmps4
    go_wp2
    go_ret
    exact ⟨rfl, Below.refl _ _⟩
  by_cases g6 : 2000000000 ≤ a5
  · go_enter Try.func4, Try.ntmps4
    go_wp2
    go_ret
    exact ⟨rfl, Below.refl _ _⟩
  exact bodyWalk a0 a1 a2 a3 a4 a5 g1 g2 g3 g4 g5 g6 w

/-! ### THE ROW's STEP: WRITTEN OUT: LEAVE IT -/
set_option maxRecDepth 100000 in
theorem lifted (os : Os) (started : os.Started) (H : Type) (enc : TypeId × Value → H) :
    ReturnsInHanded {} Try.checked os 4 .any (Rows.fnCompareIsTotalOrderOnStampsSpec.pre6 enc Try.prog Try.f4 Rows.fnCompareIsTotalOrderOnStampsRow.domain false) (Rows.fnCompareIsTotalOrderOnStampsSpec.post enc Try.prog Try.f4 false true false false) := by
  refine returnsInHanded_of_change (C := Try.checked) own started (by kernel_rfl) Try.func4
    (ChangeSpec.witness6 (enc := enc) (C := Try.checked) false ⟨#[], #[.int .i64 0, .int .i64 0, .int .i64 0, .int .i64 0, .int .i64 0, .int .i64 0], []⟩ 8 (by kernel_rfl) (by kernel_rfl) (by kernel_rfl) (by kernel_rfl)) ?_
  intro W base args ds gs before hval0 hW hcnd _
  have hval : ∀ (j : Nat) t v, Try.f4.params[j]? = some t → args[j]? = some v → Value.okWide Try.prog W .any base t v := hval0
  have hW' := hW
  obtain ⟨p, q, hA0, hV, rfl, hfz, hnd⟩ := hW
  have hA : DataW.TrodAll enc Try.prog W 0 (fun _ => true) true Try.f4.params.toList args.toList ds p := hA0
  rw [Try.params4] at hA hval
  obtain ⟨v0, vs0, d0, ds0, p0, q0, hargs, rfl, rfl, h0, r0⟩ := trodAll_cons hA
  obtain ⟨v1, vs1, d1, ds1, p1, q1, rfl, rfl, rfl, h1, r1⟩ := trodAll_cons r0
  obtain ⟨v2, vs2, d2, ds2, p2, q2, rfl, rfl, rfl, h2, r2⟩ := trodAll_cons r1
  obtain ⟨v3, vs3, d3, ds3, p3, q3, rfl, rfl, rfl, h3, r3⟩ := trodAll_cons r2
  obtain ⟨v4, vs4, d4, ds4, p4, q4, rfl, rfl, rfl, h4, r4⟩ := trodAll_cons r3
  obtain ⟨v5, vs5, d5, ds5, p5, q5, rfl, rfl, rfl, h5, r5⟩ := trodAll_cons r4
  obtain ⟨rfl, rfl, rfl⟩ := trodAll_nil r5
  obtain rfl : args = #[v0, v1, v2, v3, v4, v5] := by cases args; simp_all
  obtain ⟨rfl, rfl⟩ := trodVars_none hV
  obtain ⟨a0, rfl, rfl, rfl, w0⟩ := open_int Try.underlying2 (hval 0 2 v0 rfl rfl) h0
  obtain ⟨a1, rfl, rfl, rfl, w1⟩ := open_int Try.underlying2 (hval 1 2 v1 rfl rfl) h1
  obtain ⟨a2, rfl, rfl, rfl, w2⟩ := open_int Try.underlying2 (hval 2 2 v2 rfl rfl) h2
  obtain ⟨a3, rfl, rfl, rfl, w3⟩ := open_int Try.underlying2 (hval 3 2 v3 rfl rfl) h3
  obtain ⟨a4, rfl, rfl, rfl, w4⟩ := open_int Try.underlying2 (hval 4 2 v4 rfl rfl) h4
  obtain ⟨a5, rfl, rfl, rfl, w5⟩ := open_int Try.underlying2 (hval 5 2 v5 rfl rfl) h5
  clear hA0 hval0
  refine (walk a0 a1 a2 a3 a4 a5 w0 w1 w2 w3 w4 w5 W).mono fun e W' ⟨he, bel⟩ => ?_
  subst he
  exact ⟨_, rfl, _, _, _, [], _, [], hW', trodAll_mk1 (shut_bool Try.underlying4 _), (trodAll_cons_mk (shut_int Try.underlying2 w0) (trodAll_cons_mk (shut_int Try.underlying2 w1) (trodAll_cons_mk (shut_int Try.underlying2 w2) (trodAll_cons_mk (shut_int Try.underlying2 w3) (trodAll_cons_mk (shut_int Try.underlying2 w4) (trodAll_cons_mk (shut_int Try.underlying2 w5) trodAll_mk0)))))), rfl, bel.frame _, fun h => by cases h⟩

theorem over : Rows.fnCompareIsTotalOrderOnStampsRow.holds Try.pinned (OpenSpec.ofChange Rows.fnCompareIsTotalOrderOnStampsSpec) :=
  OpenClaim.holds_of_wide 4 Try.f4 rfl rfl rfl rfl rfl rfl rfl ⟨rfl, rfl, rfl, rfl, rfl⟩ rfl rfl rfl rfl rfl (by kernel_rfl) Try.func4 (by kernel_rfl)
    (of_decide_eq_true (by kernel_rfl)) (by unfold Func.isWrapper; first | (rw [if_pos (by decide +kernel)]; kernel_rfl) | (rw [if_neg (by decide +kernel)]; exact ⟨rfl, rfl⟩))
    (fun os started H enc _ => lifted os started H enc)

/-- ████ THE STATEMENT ████ -/
theorem proved : Rows.FnCompareIsTotalOrderOnStampsSaid :=
  over
end Go.Proofs.Qxb6628712a.fnCompareIsTotalOrderOnStamps
