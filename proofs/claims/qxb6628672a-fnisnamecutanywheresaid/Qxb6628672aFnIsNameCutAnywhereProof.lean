/-
  A proof of 'Rows.FnIsNameCutAnywhereSaid'. The frame is the guide's own shell at this function's number and types; the walk is ours.
-/
import Derived.Test.Qxb6628672aRows
import Derived.WalkKit
import Derived.ProofKit
import Derived.OpenShut
import Derived.ShutString
import Derived.ChangeOld
import Derived.Below
import Derived.Test.Qxb6628672aCounts
namespace Go.Proofs.Qxb6628672a.fnIsNameCutAnywhere
open Go.ChangeShapes Go.WideShapes Go.ChangeAt Go.RowKit
open Go.ChangeMaps (open_string shut_string)
set_option linter.unusedVariables false      -- a walk need not use every 'w<i>' (that an integer argument fits its kind)

theorem own : ownKnob Try.prog.godebug = none := by kernel_rfl

/-! ### STEP 1: THE WALK: the Go text returns true; of what was there nothing has turned. -/
theorem len_yes (s : ByteArray) (k : Int) (w : World) (h : (s.size : Int) ≤ 1048576) :
    Calls Try.prog 5 #[.string s, .int .i64 k] w fun e w' => e = .returned (.bool true) ∧ w' = w := by
  have h' : ¬ 1048576 < (s.size : Int) := by omega
  go_enter Try.func5, Try.ntmps5
  go_wp2
  go_ret
  exact ⟨rfl, rfl⟩

theorem len_no (s : ByteArray) (k : Int) (w : World) (h : 1048576 < (s.size : Int)) :
    Calls Try.prog 5 #[.string s, .int .i64 k] w fun e w' => e = .returned (.bool false) ∧ w' = w := by
  go_enter Try.func5, Try.ntmps5
  go_wp2
  go_ret
  exact ⟨rfl, rfl⟩

theorem cut_law (s : ByteArray) (k : Nat) (h1 : 1 ≤ k) (h2 : k ≤ s.size) :
    P.nm s.data.toList = (P.nm (s.extract 0 k).data.toList && P.nm ((⟨#[95]⟩ : ByteArray) ++ s.extract k s.size).data.toList) := by
  have hl : s.data.toList.length = s.size := by simp
  rw [P.nm_cut _ k h1 (by omega)]
  congr 2
  · rw [ByteArray.data_extract, Array.toList_extract, List.extract_eq_take_drop]
    simp
  · rw [ByteArray.data_append, Array.toList_append, ByteArray.data_extract, Array.toList_extract, List.extract_eq_take_drop]
    have : (s.data.toList.drop k).take (s.size - k) = s.data.toList.drop k := List.take_of_length_le (by simp)
    rw [this]
    rfl

set_option maxHeartbeats 400000 in
theorem walk (a0 : ByteArray) (a1 : Int) (w0 : a0.size ≤ maxLen) (w1 : (Lit.int .i64 a1).wf = true) (w : World) :
    Calls Try.prog 3 #[.string a0, .int .i64 a1] w fun e w' => e = .returned (.bool true) ∧ Below w.heap.size w w' := by
  by_cases hb : 1048576 < (a0.size : Int)
  · go_enter Try.func3, Try.ntmps3
    go_wp2_with (go_at_call 5; refine (len_no a0 _ _ hb).mono ?_; rintro e w' ⟨rfl, rfl⟩)
    go_ret
    exact ⟨rfl, Below.refl _ _⟩
  · have hs' : (a0.size : Int) ≤ 1048576 := by omega
    by_cases hk1 : a1 < 1
    · go_enter Try.func3, Try.ntmps3
      go_wp2_with (go_at_call 5; refine (len_yes a0 _ _ hs').mono ?_; rintro e w' ⟨rfl, rfl⟩)
      go_ret
      exact ⟨rfl, Below.refl _ _⟩
    · by_cases hk2 : (a0.size : Int) < a1
      · go_enter Try.func3, Try.ntmps3
        go_wp2_with (go_at_call 5; refine (len_yes a0 _ _ hs').mono ?_; rintro e w' ⟨rfl, rfl⟩)
        go_ret
        exact ⟨rfl, Below.refl _ _⟩
      · obtain ⟨k, rfl⟩ : ∃ k : Nat, a1 = k := ⟨a1.toNat, by omega⟩
        have h1 : 1 ≤ k := by omega
        have h2 : k ≤ a0.size := by omega
        have hlaw := cut_law a0 k h1 h2
        have c1 : Hid (∀ W, Calls Try.prog 6 #[.string a0] W fun e w' => e = .returned (.bool (P.nm a0.data.toList)) ∧ Below W.heap.size W w') := fun W => isName_any a0 W w0
        have c2 : Hid (∀ W, Calls Try.prog 6 #[.string (a0.extract 0 k)] W fun e w' => e = .returned (.bool (P.nm (a0.extract 0 k).data.toList)) ∧ Below W.heap.size W w') := fun W => isName_any _ W (by
          rw [ByteArray.size_extract]; unfold maxLen; omega)
        have c3 : Hid (∀ W, Calls Try.prog 6 #[.string ({ data := #[95] } ++ a0.extract k a0.size)] W fun e w' => e = .returned (.bool (P.nm ((⟨#[95]⟩ : ByteArray) ++ a0.extract k a0.size).data.toList)) ∧ Below W.heap.size W w') := fun W => isName_any _ W (by
          rw [ByteArray.size_append, ByteArray.size_extract]; show 1 + _ ≤ _; unfold maxLen; omega)
        generalize P.nm a0.data.toList = x at hlaw c1
        generalize P.nm (a0.extract 0 k).data.toList = y at hlaw c2
        generalize P.nm ((⟨#[95]⟩ : ByteArray) ++ a0.extract k a0.size).data.toList = z at hlaw c3
        subst hlaw
        clear w1 w0
        go_enter Try.func3, Try.ntmps3
        go_wp2_with (go_at_call 5; refine (len_yes a0 _ _ hs').mono ?_; rintro e w' ⟨rfl, rfl⟩)
        go_wp2_with fail
        refine (c1.out _).mono ?_
        rintro e W1 ⟨rfl, b1⟩
        go_wp2_with fail
        refine (c2.out _).mono ?_
        rintro e W2 ⟨rfl, b2⟩
        go_wp2_with fail
        refine (c3.out _).mono ?_
        rintro e W3 ⟨rfl, b3⟩
        have B3 : Hid (Below w'.heap.size w' W3 ∧ w'.heap.size ≤ W3.heap.size) := ⟨(b1.trans (b2.mono b1.size)).trans (b3.mono (Nat.le_trans b1.size b2.size)), Nat.le_trans b1.size (Nat.le_trans b2.size b3.size)⟩
        clear c1 c2 c3 b1 b2 b3
        cases y <;> cases z
        all_goals
          go_wp2_with fail
          refine (countFirst_any _).mono ?_
          rintro e W4 ⟨rfl, b4⟩
          go_wp2_with fail
          refine (countRest_any _).mono ?_
          rintro e W5 ⟨rfl, b5⟩
          go_wp2_with fail
          refine (countOnly_any _).mono ?_
          rintro e W6 ⟨rfl, b6⟩
          go_wp2
          go_ret
          exact ⟨rfl, ((B3.out.1.trans (b4.mono B3.out.2)).trans (b5.mono (Nat.le_trans B3.out.2 b4.size))).trans (b6.mono (Nat.le_trans B3.out.2 (Nat.le_trans b4.size b5.size)))⟩

/-! ### THE ROW's STEP: WRITTEN OUT: LEAVE IT -/
set_option maxRecDepth 100000 in
theorem lifted (os : Os) (started : os.Started) (H : Type) (enc : TypeId × Value → H) :
    ReturnsInHanded {} Try.checked os 3 .any (Rows.fnIsNameCutAnywhereSpec.pre6 enc Try.prog Try.f3 Rows.fnIsNameCutAnywhereRow.domain false) (Rows.fnIsNameCutAnywhereSpec.post enc Try.prog Try.f3 false true false false) := by
  refine returnsInHanded_of_change (C := Try.checked) own started (by kernel_rfl) Try.func3
    (ChangeSpec.witness6 (enc := enc) (C := Try.checked) false ⟨#[], #[.string ByteArray.empty, .int .i64 0], []⟩ 8 (by kernel_rfl) (by kernel_rfl) (by kernel_rfl) (by kernel_rfl)) ?_
  intro W base args ds gs before hval0 hW hcnd _
  have hval : ∀ (j : Nat) t v, Try.f3.params[j]? = some t → args[j]? = some v → Value.okWide Try.prog W .any base t v := hval0
  have hW' := hW
  obtain ⟨p, q, hA0, hV, rfl, hfz, hnd⟩ := hW
  have hA : DataW.TrodAll enc Try.prog W 0 (fun _ => true) true Try.f3.params.toList args.toList ds p := hA0
  rw [Try.params3] at hA hval
  obtain ⟨v0, vs0, d0, ds0, p0, q0, hargs, rfl, rfl, h0, r0⟩ := trodAll_cons hA
  obtain ⟨v1, vs1, d1, ds1, p1, q1, rfl, rfl, rfl, h1, r1⟩ := trodAll_cons r0
  obtain ⟨rfl, rfl, rfl⟩ := trodAll_nil r1
  obtain rfl : args = #[v0, v1] := by cases args; simp_all
  obtain ⟨rfl, rfl⟩ := trodVars_none hV
  obtain ⟨a0, rfl, rfl, rfl, w0⟩ := open_string Try.underlying9 (hval 0 9 v0 rfl rfl) h0
  obtain ⟨a1, rfl, rfl, rfl, w1⟩ := open_int Try.underlying3 (hval 1 3 v1 rfl rfl) h1
  clear hA0 hval0
  refine (walk a0 a1 w0 w1 W).mono fun e W' ⟨he, bel⟩ => ?_
  subst he
  exact ⟨_, rfl, _, _, _, [], _, [], hW', trodAll_mk1 (shut_bool Try.underlying4 _), (trodAll_cons_mk (shut_string Try.underlying9 w0) (trodAll_cons_mk (shut_int Try.underlying3 w1) trodAll_mk0)), rfl, bel.frame _, fun h => by cases h⟩

theorem over : Rows.fnIsNameCutAnywhereRow.holds Try.pinned (OpenSpec.ofChange Rows.fnIsNameCutAnywhereSpec) :=
  OpenClaim.holds_of_wide 3 Try.f3 rfl rfl rfl rfl rfl rfl rfl ⟨rfl, rfl, rfl, rfl, rfl⟩ rfl rfl rfl rfl rfl (by kernel_rfl) Try.func3 (by kernel_rfl)
    (of_decide_eq_true (by kernel_rfl)) (by unfold Func.isWrapper; first | (rw [if_pos (by decide +kernel)]; kernel_rfl) | (rw [if_neg (by decide +kernel)]; exact ⟨rfl, rfl⟩))
    (fun os started H enc _ => lifted os started H enc)

/-- ████ THE STATEMENT ████ -/
theorem proved : Rows.FnIsNameCutAnywhereSaid :=
  over
end Go.Proofs.Qxb6628672a.fnIsNameCutAnywhere
