/-
  The walk of schema.IsName: it answers P.nm of the string's bytes; nothing old turns.
-/
import Derived.Test.Qxb6628672aRows
import Derived.Test.Qxb6628672aPlain
import Derived.WalkKit
import Derived.WalkSpells
import Derived.WalkLawsBesides
import Derived.Lib.ConvBytes
namespace Go.Proofs.Qxb6628672a
open Go.RowKit

theorem bytesWorld_below (w : World) (e : TypeId) (s : ByteArray) : Below w.heap.size w (Lib.bytesWorld w e s) := by
  refine ⟨?_, ?_, ?_, ?_, fun k hk => Lib.bytesWorld_at_old w e s k hk⟩
  · simp [Lib.bytesWorld, World.freeze, World.alloc, World.drew, -World.alloc_eq, -World.drew_eq]
  · simp [Lib.bytesWorld, World.freeze, World.alloc, World.drew, -World.alloc_eq, -World.drew_eq]
  · simp [Lib.bytesWorld, World.freeze, World.alloc, World.drew, -World.alloc_eq, -World.drew_eq]
  · rw [Lib.bytesWorld_size]; omega

theorem ret_bool {a b : Bool} (h : a = b) : Ending.returned (.bool a) = .returned (.bool b) := by rw [h]

set_option maxHeartbeats 400000 in
theorem isName_any (s : ByteArray) (w : World) (hs : s.size ≤ maxLen) :
    Calls Try.prog 6 #[.string s] w fun e w' => e = .returned (.bool (P.nm s.data.toList)) ∧ Below w.heap.size w w' := by
  unfold maxLen at hs
  have hcv := Lib.run_convert_string_bytes (P := Try.prog) w 9 27 5 s (u := .string) Try.underlying9 Try.underlying27 Try.underlying5
  have hbw := bytesWorld_below w 5 s
  have hcell := Lib.bytesWorld_cell w 5 s
  generalize Lib.bytesWorld w 5 s = W1 at hcv hbw hcell
  generalize grownCap w s.size 0 5 = cap at hcv
  go_enter Try.func6, Try.ntmps6
  go_wp2
  go_loop [9] (fun i => ∃ k : Nat, k ≤ s.size ∧ i = .int .i64 k ∧ ∀ j, j < k → P.okAt j (s.data.toList.getD j 0) = true) (fun i => s.size - (intOf i).toNat)
  case atStart => exact ⟨0, Nat.zero_le _, rfl, fun j hj => absurd hj (Nat.not_lt_zero _)⟩
  case round =>
    obtain ⟨k, hk, rfl, hpre0⟩ := hrel
    have hpre : Hid (∀ j, j < k → P.okAt j (s.data.toList.getD j 0) = true) := hpre0
    clear hpre0
    by_cases hlt : k < s.size
    · have hc := hcell k hlt
      have hln : k < s.data.toList.length := by simpa using hlt
      have hno : Hid (P.okAt k (s.data.toList.getD k 0) = false → P.nm s.data.toList = false) := P.nm_no _ k hln
      have hye : Hid (P.okAt k (s.data.toList.getD k 0) = true → ∀ j, j < k + 1 → P.okAt j (s.data.toList.getD j 0) = true) := by
        intro h j hj
        by_cases e : j = k
        · subst e; exact h
        · exact hpre.out j (by omega)
      generalize s.data.toList.getD k 0 = c at hc hno hye
      clear hcell hpre hln
      by_cases hok : P.okAt k c = true
      · have hall : Hid (∀ j, j < k + 1 → P.okAt j (s.data.toList.getD j 0) = true) := hye.out hok
        have hf := P.ok_yes hok
        clear hok hno hye
        rcases hf with ⟨f1, f2⟩ | ⟨f1, f2, f3⟩ | ⟨f1, f2, f3, f4⟩ | ⟨f1, f2, f3, f4, f5, f6⟩
        all_goals
          go_wp2
          go_round
          case rel => exact ⟨k + 1, by omega, by go_num, hall.out⟩
          case measure => simp [intOf]; omega
      · rw [Bool.not_eq_true] at hok
        have hall : Hid (P.nm s.data.toList = false) := hno.out hok
        have hf := P.ok_no hok
        clear hok hno hye
        rcases hf with ⟨f1, f2, f3, f4⟩ | ⟨f1, f2, f3, f4, f5⟩ | ⟨f1, f2, f3, f4, f5, f6⟩ | ⟨f1, f2, f3, f4, f5⟩ | ⟨f1, f2, f3, f4, f5, f6, f7⟩ | ⟨f1, f2, f3, f4, f5, f6⟩ | ⟨f1, f2, f3, f4, f5, f6, f7, f8⟩
        all_goals
          go_wp2
          all_goals
            go_ret
            exact ⟨ret_bool (by rw [hall.out]), hbw⟩
    · go_wp2
      go_ret
      refine ⟨ret_bool ?_, hbw⟩
      exact P.nm_full s (fun j hj => hpre.out j (by omega))
end Go.Proofs.Qxb6628672a
