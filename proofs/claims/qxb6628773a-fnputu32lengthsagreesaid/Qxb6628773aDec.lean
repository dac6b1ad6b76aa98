/-
  The walks of fitsWasmB1 and decodesToWasmB1 over a row that PutU32 has laid.
-/
import Derived.Test.Qxb6628773aEqual
import Derived.Test.Qxb6628773aBits
namespace Go.Proofs.Qxb6628773a
open Go.RowKit

theorem wrapU (z : Nat) (h : z < 18446744073709551616) : IntKind.u64.wrap (z : Int) = (z : Int) := by
  simp [IntKind.wrap, IntKind.signed, IntKind.bits]
  omega

theorem or64 (a b : Nat) (ha : a < 18446744073709551616) (hb : b < 18446744073709551616) (hab : a ||| b < 18446744073709551616) : bits .or .u64 (a : Int) (b : Int) = ((a ||| b : Nat) : Int) := by
  unfold bits
  have e1 : (BitVec.ofInt IntKind.u64.bits (a : Int)) = BitVec.ofNat 64 a := by
    show BitVec.ofInt 64 (a : Int) = _
    exact BitVec.ofInt_natCast 64 a
  have e2 : (BitVec.ofInt IntKind.u64.bits (b : Int)) = BitVec.ofNat 64 b := by
    show BitVec.ofInt 64 (b : Int) = _
    exact BitVec.ofInt_natCast 64 b
  simp only [e1, e2]
  have e3 : (BitVec.ofNat 64 a ||| BitVec.ofNat 64 b).toNat = a ||| b := by
    rw [BitVec.toNat_or, BitVec.toNat_ofNat, BitVec.toNat_ofNat, Nat.mod_eq_of_lt ha, Nat.mod_eq_of_lt hb]
  show IntKind.u64.wrap (((BitVec.ofNat 64 a ||| BitVec.ofNat 64 b).toNat : Nat) : Int) = _
  rw [e3, wrapU _ hab]

theorem low7 (V m k : Nat) (h : k ≤ m) : bits .and .u8 (enc V (m + 1) k) 127 = ((V / 128 ^ k % 128 : Nat) : Int) := by
  rw [enc_eq, and127 _ (encN_lt _ _ _)]
  by_cases e : k = m
  · subst e
    rw [encN_last]
    omega
  · rw [encN_head (by omega)]
    omega

theorem pow5 {k : Nat} (h : 5 ≤ k) : 4294967296 ≤ 128 ^ k := Nat.le_trans (by decide : 4294967296 ≤ 128 ^ 5) (Nat.pow_le_pow_right (by omega) h)

theorem high_zero (V k : Nat) (hV : V < 4294967296) (h : 5 ≤ k) : V / 128 ^ k = 0 := Nat.div_eq_of_lt (Nat.lt_of_lt_of_le hV (pow5 h))

theorem rest_zero (V m k : Nat) (hV : V < 4294967296) (h : k ≤ m) (h5 : 5 ≤ k) : (IntKind.u64.wrap (bits .and .u8 (enc V (m + 1) k) 127) != 0) = false := by
  rw [low7 V m k h, high_zero V k hV h5]
  rfl

theorem last_top (V m : Nat) (hV : V < 4294967296) (hfit : 4 ≤ m ∨ V < 128 ^ (m + 1)) : (bits .and .u8 (enc V (m + 1) m) 128 != 0) = false := by
  have hd : V / 128 ^ m < 128 := by
    rcases hfit with h | h
    · have h4 : 268435456 ≤ 128 ^ m := Nat.le_trans (by decide : 268435456 ≤ 128 ^ 4) (Nat.pow_le_pow_right (by omega) h)
      exact Nat.div_lt_of_lt_mul (by omega)
    · rw [Nat.pow_succ] at h
      exact Nat.div_lt_of_lt_mul h
  rw [enc_eq, and128 _ (encN_lt _ _ _), encN_last]
  refine ne_self _ _ ?_
  generalize V / 128 ^ m = y at hd
  omega

theorem or_step (V m k x : Nat) (h : k ≤ m) (hk : k < 5) (hx : x = V % 128 ^ (min k 5)) :
    bits .or .u64 (x : Int) (IntKind.u64.wrap (IntKind.u64.wrap (bits .and .u8 (enc V (m + 1) k) 127) * 2 ^ (7 * k))) = ((V % 128 ^ (min (k + 1) 5) : Nat) : Int) := by
  rw [low7 V m k h, wrapU _ (by omega)]
  have e : ((V / 128 ^ k % 128 : Nat) : Int) * 2 ^ (7 * k) = ((2 ^ (7 * k) * (V / 128 ^ k % 128) : Nat) : Int) := by
    rw [Int.natCast_mul, Int.natCast_pow, Int.mul_comm]
    rfl
  have hp : 2 ^ (7 * k) ≤ 268435456 := Nat.le_trans (Nat.pow_le_pow_right (by omega) (show 7 * k ≤ 28 by omega)) (by decide)
  have hb : 2 ^ (7 * k) * (V / 128 ^ k % 128) < 34359738368 := by
    have h1 : V / 128 ^ k % 128 ≤ 127 := by omega
    have := Nat.mul_le_mul hp h1
    omega
  have hxl : x < 2 ^ (7 * k) := by
    rw [hx, Nat.min_eq_left (by omega), pow7]
    exact Nat.mod_lt _ (Nat.two_pow_pos _)
  have hor : x ||| 2 ^ (7 * k) * (V / 128 ^ k % 128) = 2 ^ (7 * k) * (V / 128 ^ k % 128) + x := by
    rw [Nat.or_comm, Nat.two_pow_add_eq_or_of_lt hxl]
  rw [e, wrapU _ (by omega), or64 _ _ (by omega) (by omega) (by rw [hor]; omega), hor]
  rw [Nat.min_eq_left (by omega), Nat.pow_succ, Nat.mod_mul, hx, Nat.min_eq_left (by omega), pow7]
  omega

theorem end_acc (V m : Nat) (hV : V < 4294967296) (hfit : 4 ≤ m ∨ V < 128 ^ (m + 1)) : V % 128 ^ (min (m + 1) 5) = V := by
  refine Nat.mod_eq_of_lt ?_
  by_cases h : 5 ≤ m + 1
  · rw [Nat.min_eq_right h]
    exact Nat.lt_of_lt_of_le hV (pow5 (Nat.le_refl 5))
  · rw [Nat.min_eq_left (by omega)]
    rcases hfit with h4 | h4
    · omega
    · exact h4

theorem fits_eq (V n : Nat) : ((V : Int) / 2 ^ (7 * n) == 0) = decide (V < 128 ^ n) := by
  rw [div_cast, pow7]
  by_cases h : V < 2 ^ (7 * n)
  · rw [Nat.div_eq_of_lt h]
    simp [h]
  · have : 0 < V / 2 ^ (7 * n) := Nat.div_pos (by omega) (Nat.two_pow_pos _)
    rw [decide_eq_false h, beq_eq_false_iff_ne]
    omega

set_option maxHeartbeats 400000 in
theorem fits_big (n V : Nat) (w : World) (h : 5 ≤ (n : Int)) :
    Calls Try.prog 11 #[.int .i64 n, .int .u32 V] w fun e w' => e = .returned (.bool true) ∧ w = w' := by
  go_enter Try.func11, Try.ntmps11
  go_wp2
  go_ret
  exact ⟨rfl, rfl⟩

set_option maxHeartbeats 400000 in
theorem fits_small (n V : Nat) (w : World) (h : (n : Int) < 5) (_hV : V < 4294967296) :
    Calls Try.prog 11 #[.int .i64 n, .int .u32 V] w fun e w' => e = .returned (.bool (decide (V < 128 ^ n))) ∧ w = w' := by
  go_enter Try.func11, Try.ntmps11
  go_wp2
  go_ret
  exact ⟨ret_bool (fits_eq V n), rfl⟩

set_option maxHeartbeats 400000 in
theorem dec_yes (B m V : Nat) (w : World) (hl : m + 1 ≤ 65536) (hV : V < 4294967296) (hfit : 4 ≤ m ∨ V < 128 ^ (m + 1)) (h1 : w.rowIs B 5 (m + 1) (fun j => .int .u8 (enc V (m + 1) j))) :
    Calls Try.prog 12 #[.slice (some ⟨B, 0, none⟩) (m + 1) (m + 1), .int .u32 V] w fun e w' => e = .returned (.bool true) ∧ w = w' := by
  have H1 : Hid (w.rowIs B 5 (m + 1) (fun j => .int .u8 (enc V (m + 1) j))) := h1
  have HF : Hid (4 ≤ m ∨ V < 128 ^ (m + 1)) := hfit
  clear h1 hfit
  go_enter Try.func12, Try.ntmps12
  go_wp2
  go_loop [6, 7] (fun a i => ∃ k x : Nat, k ≤ m + 1 ∧ i = .int .i64 k ∧ a = .int .u64 x ∧ x = V % 128 ^ (min k 5)) (fun _ i => m + 1 - (intOf i).toNat)
  case atStart => exact ⟨0, 0, Nat.zero_le _, rfl, rfl, by simp [Nat.mod_one]⟩
  case round =>
    obtain ⟨k, x, hk, rfl, rfl, hx⟩ := hrel
    have HX : Hid (x = V % 128 ^ (min k 5)) := hx
    have hx1 : x < 4294967296 := by rw [hx]; exact Nat.lt_of_le_of_lt (Nat.mod_le _ _) hV
    clear hx
    by_cases hle : k < m + 1
    · have c1 := H1.out.cell hle
      by_cases h5 : 5 ≤ k
      · have f2 := rest_zero V m k hV (by omega) h5
        have HM : Hid (x = V % 128 ^ (min (k + 1) 5)) := by
          show x = _
          rw [HX.out, Nat.min_eq_right h5, Nat.min_eq_right (by omega)]
        by_cases hlt : k < m
        · have f1 := top_set V m k hlt
          generalize enc V (m + 1) k = c at c1 f1 f2
          go_wp2
          go_round
          case rel => exact ⟨k + 1, x, by omega, by go_num, rfl, HM.out⟩
          case measure => simp [intOf]; omega
        · have f1 : (bits .and .u8 (enc V (m + 1) k) 128 != 0) = false := by rw [show k = m by omega]; exact last_top V m hV HF.out
          generalize enc V (m + 1) k = c at c1 f1 f2
          go_wp2
          go_round
          case rel => exact ⟨k + 1, x, by omega, by go_num, rfl, HM.out⟩
          case measure => simp [intOf]; omega
      · have HM : Hid _ := or_step V m k x (by omega) (by omega) HX.out
        by_cases hlt : k < m
        · have f1 := top_set V m k hlt
          generalize enc V (m + 1) k = c at c1 f1 HM
          go_wp2
          go_round
          case rel => exact ⟨k + 1, V % 128 ^ (min (k + 1) 5), by omega, by go_num, by rw [HM.out], rfl⟩
          case measure => simp [intOf]; omega
        · have f1 : (bits .and .u8 (enc V (m + 1) k) 128 != 0) = false := by rw [show k = m by omega]; exact last_top V m hV HF.out
          generalize enc V (m + 1) k = c at c1 f1 HM
          go_wp2
          go_round
          case rel => exact ⟨k + 1, V % 128 ^ (min (k + 1) 5), by omega, by go_num, by rw [HM.out], rfl⟩
          case measure => simp [intOf]; omega
    · have HE : Hid (x = V) := by
        show x = V
        rw [HX.out, show k = m + 1 by omega]
        exact end_acc V m hV HF.out
      have he : x = V := HE.out
      subst he
      go_wp2
      go_ret
      exact ⟨rfl, rfl⟩

theorem dec_any (B n V : Nat) (w : World) (hp : 0 < n) (hl : n ≤ 65536) (hV : V < 4294967296) (hfit : 5 ≤ n ∨ V < 128 ^ n) (h1 : w.rowIs B 5 n (fun j => .int .u8 (enc V n j))) :
    Calls Try.prog 12 #[.slice (some ⟨B, 0, none⟩) n n, .int .u32 V] w fun e w' => e = .returned (.bool true) ∧ w = w' := by
  obtain ⟨m, rfl⟩ : ∃ m, n = m + 1 := ⟨n - 1, by omega⟩
  exact dec_yes B m V w hl hV (by omega) h1
end Go.Proofs.Qxb6628773a
