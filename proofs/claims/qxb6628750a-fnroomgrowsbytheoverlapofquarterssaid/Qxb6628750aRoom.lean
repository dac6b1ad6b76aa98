/-
  The contract of execlimits.Room.
-/
import Derived.Test.Qxb6628750aRows
import Derived.WalkKit
import Derived.WalkSpells
import Derived.WalkLawsBesides
namespace Go.Proofs.Qxb6628750a
open Go.RowKit

def lowS : ByteArray := ⟨#[116, 104, 101, 32, 108, 101, 97, 115, 116, 32, 105, 116, 32, 116, 97, 107, 101, 115, 44, 32, 104, 111, 119, 101, 118, 101, 114, 32, 108, 111, 119, 32, 116, 104, 101, 32, 115, 116, 97, 99, 107, 32, 108, 105, 109, 105, 116]⟩
def highS : ByteArray := ⟨#[116, 104, 101, 32, 109, 111, 115, 116, 32, 105, 116, 32, 116, 97, 107, 101, 115, 44, 32, 104, 111, 119, 101, 118, 101, 114, 32, 104, 105, 103, 104, 32, 116, 104, 101, 32, 115, 116, 97, 99, 107, 32, 108, 105, 109, 105, 116]⟩
def midS : ByteArray := ⟨#[97, 32, 113, 117, 97, 114, 116, 101, 114, 32, 111, 102, 32, 116, 104, 101, 32, 115, 116, 97, 99, 107, 32, 108, 105, 109, 105, 116]⟩

set_option maxHeartbeats 400000 in
theorem room_low (a : Int) (w : World) (h0 : 0 ≤ a) (h : a / 4 < 131072) :
    Calls Try.prog 5 #[.int .u64 a] w fun e w' => e = .returned (.tuple #[.int .i64 131072, .string lowS]) ∧ w = w' := by
  go_enter Try.func5, Try.ntmps5
  go_wp2
  go_ret2
  exact ⟨rfl, rfl⟩

set_option maxHeartbeats 400000 in
theorem room_high (a : Int) (w : World) (h0 : 0 ≤ a) (hub : a ≤ 18446744073709551615) (h : 6291456 < a / 4) :
    Calls Try.prog 5 #[.int .u64 a] w fun e w' => e = .returned (.tuple #[.int .i64 6291456, .string highS]) ∧ w = w' := by
  have h1 : ¬ a / 4 < 131072 := by omega
  go_enter Try.func5, Try.ntmps5
  go_wp2
  go_ret2
  exact ⟨rfl, rfl⟩

set_option maxHeartbeats 400000 in
theorem room_mid (a v : Int) (w : World) (h0 : 0 ≤ a) (h : ¬ a / 4 < 131072) (h2 : ¬ 6291456 < a / 4) (hv : a / 4 = v) :
    Calls Try.prog 5 #[.int .u64 a] w fun e w' => e = .returned (.tuple #[.int .i64 v, .string midS]) ∧ w = w' := by
  have HV : Hid (a / 4 = v) := hv
  clear hv
  go_enter Try.func5, Try.ntmps5
  go_wp2
  go_ret2
  exact ⟨by rw [← HV.out]; rfl, rfl⟩

theorem low_mid : (lowS.toList == midS.toList) = false := by decide +kernel
theorem mid_high : (midS.toList == highS.toList) = false := by decide +kernel
theorem low_high : (lowS.toList == highS.toList) = false := by decide +kernel
theorem low_some : lowS.toList.isEmpty = false := by decide +kernel
theorem mid_some : midS.toList.isEmpty = false := by decide +kernel
theorem high_some : highS.toList.isEmpty = false := by decide +kernel
end Go.Proofs.Qxb6628750a
