/-
  The walk of lebBitsWasmB1 over a row that PutU32 has laid.
-/
import Derived.Test.Qxb6628773aEqual
import Derived.Test.Qxb6628773aBits
namespace Go.Proofs.Qxb6628773a
open Go.RowKit

set_option maxHeartbeats 400000 in
theorem leb_yes (B m V : Nat) (w : World) (hl : m + 1 ≤ 65536) (hV : V < 4294967296) (h1 : w.rowIs B 5 (m + 1) (fun j => .int .u8 (enc V (m + 1) j))) :
    Calls Try.prog 9 #[.slice (some ⟨B, 0, none⟩) (m + 1) (m + 1), .int .u32 V] w fun e w' => e = .returned (.bool true) ∧ w = w' := by
  have H1 : Hid (w.rowIs B 5 (m + 1) (fun j => .int .u8 (enc V (m + 1) j))) := h1
  clear h1
  go_enter Try.func9, Try.ntmps9
  go_wp2
  go_loop [6] (fun i => ∃ k : Nat, k ≤ m ∧ i = .int .i64 k) (fun i => m - (intOf i).toNat)
  case atStart => exact ⟨0, Nat.zero_le _, rfl⟩
  case round =>
    obtain ⟨k, hk, rfl⟩ := hrel
    by_cases hlt : k < m
    · have c1 := H1.out.cell (show k < m + 1 by omega)
      have f1 := top_set V m k hlt
      generalize enc V (m + 1) k = c at c1 f1
      go_wp2
      go_round
      case rel => exact ⟨k + 1, by omega, by go_num⟩
      case measure => simp [intOf]; omega
    · go_wp2
      go_loop [8] (fun i => ∃ j : Nat, j ≤ 7 * m + 8 ∧ i = .int .i64 j) (fun i => 7 * m + 8 - (intOf i).toNat)
      case atStart => exact ⟨0, Nat.zero_le _, rfl⟩
      case round =>
        obtain ⟨j, hj, rfl⟩ := hrel
        by_cases hlt2 : j < 7 * m + 8
        · by_cases h7 : j < 7 * m
          · have c1 := H1.out.cell (show j / 7 < m + 1 by omega)
            by_cases h32 : j < 32
            · have f1 : (bits .and .u8 (enc V (m + 1) (j / 7) / 2 ^ (j - 7 * (j / 7))) 1 != bits .and .u8 ((V : Int) / 2 ^ j % 256) 1) = false := ne_self _ _ ((got_head V m j h7).trans (want_low V j).symm)
              generalize enc V (m + 1) (j / 7) = c at c1 f1
              go_wp2
              go_round
              case rel => exact ⟨j + 1, by omega, by go_num⟩
              case measure => simp [intOf]; omega
            · have f1 : (bits .and .u8 (enc V (m + 1) (j / 7) / 2 ^ (j - 7 * (j / 7))) 1 != 0) = false := ne_self _ _ ((got_head V m j h7).trans (want_high V j hV (by omega)))
              generalize enc V (m + 1) (j / 7) = c at c1 f1
              go_wp2
              go_round
              case rel => exact ⟨j + 1, by omega, by go_num⟩
              case measure => simp [intOf]; omega
          · have c1 := H1.out.cell (show m < m + 1 by omega)
            by_cases h32 : j < 32
            · have f1 : (bits .and .u8 (enc V (m + 1) m / 2 ^ (j - 7 * m)) 1 != bits .and .u8 ((V : Int) / 2 ^ j % 256) 1) = false := ne_self _ _ ((got_last V m j (by omega) hlt2).trans (want_low V j).symm)
              generalize enc V (m + 1) m = c at c1 f1
              go_wp2
              go_round
              case rel => exact ⟨j + 1, by omega, by go_num⟩
              case measure => simp [intOf]; omega
            · have f1 : (bits .and .u8 (enc V (m + 1) m / 2 ^ (j - 7 * m)) 1 != 0) = false := ne_self _ _ ((got_last V m j (by omega) hlt2).trans (want_high V j hV (by omega)))
              generalize enc V (m + 1) m = c at c1 f1
              go_wp2
              go_round
              case rel => exact ⟨j + 1, by omega, by go_num⟩
              case measure => simp [intOf]; omega
        · go_wp2
          go_ret
          exact ⟨rfl, rfl⟩
end Go.Proofs.Qxb6628773a
