/-
  A proof of 'Rows.FnIsNameRepairByOwnVerdictsSaid'. The frame is the guide's own shell at this function's number and types; the walk is ours.
-/
import Derived.Test.Qxb6628672aRows
import Derived.WalkKit
import Derived.ProofKit
import Derived.OpenShut
import Derived.ShutString
import Derived.ChangeOld
import Derived.Below
import Derived.Test.Qxb6628672aRepair
namespace Go.Proofs.Qxb6628672a.fnIsNameRepairByOwnVerdicts
open Go.ChangeShapes Go.WideShapes Go.ChangeAt Go.RowKit
open Go.ChangeMaps (open_string shut_string)
set_option linter.unusedVariables false      -- a walk need not use every 'w<i>' (that an integer argument fits its kind)

theorem own : ownKnob Try.prog.godebug = none := by kernel_rfl

/-! ### STEP 1: THE WALK: the Go text returns true; of what was there nothing has turned. -/
theorem len_yes (s : ByteArray) (w : World) (h : (s.size : Int) ≤ 1048576) :
    Calls Try.prog 10 #[.string s] w fun e w' => e = .returned (.bool true) ∧ w' = w := by
  have h' : ¬ 1048576 < (s.size : Int) := by omega
  go_enter Try.func10, Try.ntmps10
  go_wp2
  go_ret
  exact ⟨rfl, rfl⟩

theorem len_no (s : ByteArray) (w : World) (h : 1048576 < (s.size : Int)) :
    Calls Try.prog 10 #[.string s] w fun e w' => e = .returned (.bool false) ∧ w' = w := by
  go_enter Try.func10, Try.ntmps10
  go_wp2
  go_ret
  exact ⟨rfl, rfl⟩

set_option maxHeartbeats 400000 in
theorem walk (a0 : ByteArray) (w0 : a0.size ≤ maxLen) (w : World) :
    Calls Try.prog 4 #[.string a0] w fun e w' => e = .returned (.bool true) ∧ Below w.heap.size w w' := by
  by_cases hb : 1048576 < (a0.size : Int)
  · go_enter Try.func4, Try.ntmps4
    go_wp2_with (go_at_call 10; refine (len_no a0 _ hb).mono ?_; rintro e w' ⟨rfl, rfl⟩)
    go_ret
    exact ⟨rfl, Below.refl _ _⟩
  · have hs : a0.size ≤ 1048576 := by omega
    have hs' : (a0.size : Int) ≤ 1048576 := by omega
    have c1 : Hid (∀ W, Calls Try.prog 11 #[.string a0] W fun e w' => e = .returned (.tuple #[.string (rep a0), .int .i64 (cnt a0 a0.size)]) ∧ Below W.heap.size W w') := fun W => repair_any a0 W hs
    have c2 : Hid (∀ W, Calls Try.prog 11 #[.string (rep a0)] W fun e w' => e = .returned (.tuple #[.string (rep a0), .int .i64 0]) ∧ Below W.heap.size W w') := fun W => by
      have := repair_any (rep a0) W (rep_size a0 hs)
      rw [rep_rep, rep_cnt] at this
      exact this
    have c3 : Hid (∀ W, Calls Try.prog 6 #[.string (rep a0)] W fun e w' => e = .returned (.bool true) ∧ Below W.heap.size W w') := fun W => by
      have := isName_any (rep a0) W (by have := rep_size a0 hs; unfold maxLen; omega)
      rw [rep_nm] at this
      exact this
    have c4 : Hid (∀ W, Calls Try.prog 6 #[.string a0] W fun e w' => e = .returned (.bool (decide (0 < a0.size) && decide (cnt a0 a0.size = 0))) ∧ Below W.heap.size W w') := fun W => by
      have := isName_any a0 W w0
      rw [nm_iff] at this
      exact this
    have hcl := cnt_le a0 a0.size
    generalize cnt a0 a0.size = n at c1 c4 hcl
    generalize rep a0 = r at c1 c2 c3
    go_enter Try.func4, Try.ntmps4
    go_wp2_with (go_at_call 10; refine (len_yes a0 _ hs').mono ?_; rintro e w' ⟨rfl, rfl⟩)
    go_wp2_with fail
    refine (c1.out _).mono ?_
    rintro e W1 ⟨rfl, b1⟩
    go_wp2_with fail
    refine (c2.out _).mono ?_
    rintro e W2 ⟨rfl, b2⟩
    go_wp2_with fail
    refine (c3.out _).mono ?_
    rintro e W3 ⟨rfl, b3⟩
    go_wp2_with fail
    refine (c4.out _).mono ?_
    rintro e W4 ⟨rfl, b4⟩
    go_wp2
    all_goals
      go_ret
      refine ⟨ret_bool ?_, ((b1.trans (b2.mono b1.size)).trans (b3.mono (Nat.le_trans b1.size b2.size))).trans (b4.mono (Nat.le_trans b1.size (Nat.le_trans b2.size b3.size)))⟩
    · by_cases hn : n = 0 <;> simp [hn]
    · rfl

/-! ### THE ROW's STEP: WRITTEN OUT: LEAVE IT -/
set_option maxRecDepth 100000 in
theorem lifted (os : Os) (started : os.Started) (H : Type) (enc : TypeId × Value → H) :
    ReturnsInHanded {} Try.checked os 4 .any (Rows.fnIsNameRepairByOwnVerdictsSpec.pre6 enc Try.prog Try.f4 Rows.fnIsNameRepairByOwnVerdictsRow.domain false) (Rows.fnIsNameRepairByOwnVerdictsSpec.post enc Try.prog Try.f4 false true false false) := by
  refine returnsInHanded_of_change (C := Try.checked) own started (by kernel_rfl) Try.func4
    (ChangeSpec.witness6 (enc := enc) (C := Try.checked) false ⟨#[], #[.string ByteArray.empty], []⟩ 8 (by kernel_rfl) (by kernel_rfl) (by kernel_rfl) (by kernel_rfl)) ?_
  intro W base args ds gs before hval0 hW hcnd _
  have hval : ∀ (j : Nat) t v, Try.f4.params[j]? = some t → args[j]? = some v → Value.okWide Try.prog W .any base t v := hval0
  have hW' := hW
  obtain ⟨p, q, hA0, hV, rfl, hfz, hnd⟩ := hW
  have hA : DataW.TrodAll enc Try.prog W 0 (fun _ => true) true Try.f4.params.toList args.toList ds p := hA0
  rw [Try.params4] at hA hval
  obtain ⟨v0, vs0, d0, ds0, p0, q0, hargs, rfl, rfl, h0, r0⟩ := trodAll_cons hA
  obtain ⟨rfl, rfl, rfl⟩ := trodAll_nil r0
  obtain rfl : args = #[v0] := by cases args; simp_all
  obtain ⟨rfl, rfl⟩ := trodVars_none hV
  obtain ⟨a0, rfl, rfl, rfl, w0⟩ := open_string Try.underlying9 (hval 0 9 v0 rfl rfl) h0
  clear hA0 hval0
  refine (walk a0 w0 W).mono fun e W' ⟨he, bel⟩ => ?_
  subst he
  exact ⟨_, rfl, _, _, _, [], _, [], hW', trodAll_mk1 (shut_bool Try.underlying4 _), (trodAll_cons_mk (shut_string Try.underlying9 w0) trodAll_mk0), rfl, bel.frame _, fun h => by cases h⟩

theorem over : Rows.fnIsNameRepairByOwnVerdictsRow.holds Try.pinned (OpenSpec.ofChange Rows.fnIsNameRepairByOwnVerdictsSpec) :=
  OpenClaim.holds_of_wide 4 Try.f4 rfl rfl rfl rfl rfl rfl rfl ⟨rfl, rfl, rfl, rfl, rfl⟩ rfl rfl rfl rfl rfl (by kernel_rfl) Try.func4 (by kernel_rfl)
    (of_decide_eq_true (by kernel_rfl)) (by unfold Func.isWrapper; first | (rw [if_pos (by decide +kernel)]; kernel_rfl) | (rw [if_neg (by decide +kernel)]; exact ⟨rfl, rfl⟩))
    (fun os started H enc _ => lifted os started H enc)

/-- ████ THE STATEMENT ████ -/
theorem proved : Rows.FnIsNameRepairByOwnVerdictsSaid :=
  over
end Go.Proofs.Qxb6628672a.fnIsNameRepairByOwnVerdicts
