/-
  The walk of FnPutU32LengthsAgree.
-/
import Derived.Test.Qxb6628773aDec
namespace Go.Proofs.Qxb6628773a
open Go.RowKit

theorem len2_yes (x : Option Addr) (l c : Nat) (x2 : Option Addr) (l2 c2 : Nat) (v : Int) (w : World) (h : (l : Int) + l2 ≤ 1048576) :
    Calls Try.prog 10 #[.slice x l c, .slice x2 l2 c2, .int .u32 v] w fun e w' => e = .returned (.bool true) ∧ w = w' := by
  have h1 : ¬ 1048576 < (l : Int) := by omega
  have h2 : ¬ 1048576 < (l2 : Int) := by omega
  have h3 : ¬ 1048576 < (l : Int) + l2 := by omega
  go_enter Try.func10, Try.ntmps10
  go_wp2
  go_ret
  exact ⟨rfl, rfl⟩

theorem len2_no (x : Option Addr) (l c : Nat) (x2 : Option Addr) (l2 c2 : Nat) (v : Int) (w : World) (hm : (l : Int) ≤ 9223372036854775807) (hm2 : (l2 : Int) ≤ 9223372036854775807) (h : 1048576 < (l : Int) + l2) :
    Calls Try.prog 10 #[.slice x l c, .slice x2 l2 c2, .int .u32 v] w fun e w' => e = .returned (.bool false) ∧ w = w' := by
  by_cases h1 : 1048576 < (l : Int)
  · go_enter Try.func10, Try.ntmps10
    go_wp2
    go_ret
    exact ⟨rfl, rfl⟩
  · by_cases h2 : 1048576 < (l2 : Int)
    · go_enter Try.func10, Try.ntmps10
      go_wp2
      go_ret
      exact ⟨rfl, rfl⟩
    · go_enter Try.func10, Try.ntmps10
      go_wp2
      go_ret
      exact ⟨rfl, rfl⟩

def fitB (n V : Nat) : Bool := decide (5 ≤ n) || decide (V < 128 ^ n)

theorem fits_is (n V : Nat) (v : Bool) (hV : V < 4294967296) (h : fitB n V = v) (w : World) :
    Calls Try.prog 11 #[.int .i64 n, .int .u32 V] w fun e w' => e = .returned (.bool v) ∧ w = w' := by
  subst h
  by_cases h5 : 5 ≤ n
  · have e : fitB n V = true := by simp [fitB, h5]
    rw [e]
    exact fits_big n V w (by omega)
  · have e : fitB n V = decide (V < 128 ^ n) := by simp [fitB, h5]
    rw [e]
    exact fits_small n V w (by omega) hV

theorem fit_or {n V : Nat} (h : fitB n V = true) : 5 ≤ n ∨ V < 128 ^ n := by simpa [fitB] using h

theorem encN_of_head {V n k : Nat} (h : k < n - 1) : encN V n k = V / 128 ^ k % 128 + 128 := by
  unfold encN
  rw [if_pos h]
theorem encN_of_last (V n : Nat) : encN V n (n - 1) = V / 128 ^ (n - 1) % 256 := by
  unfold encN
  rw [if_neg (by omega)]

theorem head_same (V m n k : Nat) (h : k < m - 1) (h2 : m ≤ n) : enc V m k = enc V n k := by
  rw [enc_eq, enc_eq, encN_of_head h, encN_of_head (by omega)]

theorem low_same (V m n : Nat) (h : 0 < m) (h2 : m < n) : bits .and .u8 (enc V m (m - 1)) 127 = bits .and .u8 (enc V n (m - 1)) 127 := by
  rw [enc_eq, enc_eq, and127 _ (encN_lt _ _ _), and127 _ (encN_lt _ _ _), encN_of_last, encN_of_head (by omega)]
  omega

theorem top_low (V m n : Nat) (h : 0 < m) (h2 : m < n) : enc V m (m - 1) / 128 = bits .and .u8 (enc V n m) 1 := by
  have e : V / 128 ^ m = V / 128 ^ (m - 1) / 128 := by
    rw [Nat.div_div_eq_div_mul, ← Nat.pow_succ, Nat.succ_eq_add_one, show m - 1 + 1 = m by omega]
  rw [enc_eq, enc_eq, and1 _ (encN_lt _ _ _), encN_of_last]
  by_cases hl : m < n - 1
  · rw [encN_of_head hl, e]
    omega
  · have : m = n - 1 := by omega
    have e2 : encN V n m = V / 128 ^ m % 256 := by
      rw [this]
      exact encN_of_last V n
    rw [e2, e]
    omega

theorem row_drewN {w : World} {b n : Nat} {t : TypeId} {f : Nat → Value} (h : w.rowIs b t n f) (k : Nat) : (w.drewN k).rowIs b t n f := h

set_option maxHeartbeats 1000000 in
set_option maxRecDepth 100000 in
theorem agree_lt (b1 off1 n1 cap1 : Nat) (z1 : List Int) (b2 off2 n2 cap2 : Nat) (z2 : List Int) (V : Nat) (w : World) (hp1 : 0 < n1) (hp2 : 0 < n2) (hl1 : n1 ≤ 65536) (hl2 : n2 ≤ 65536) (hz1 : n1 ≤ z1.length) (hz2 : n2 ≤ z2.length)
    (hb1 : b1 < w.heap.size) (hb2 : b2 < w.heap.size) (hV : V < 4294967296)
    (hc1 : ∀ j, j < z1.length → w.cell? ⟨b1, off1 + j, none⟩ = some (.int .u8 (z1.getD j 0)))
    (hc2 : ∀ j, j < z2.length → w.cell? ⟨b2, off2 + j, none⟩ = some (.int .u8 (z2.getD j 0))) (hle : n1 < n2) :
    Calls Try.prog 4 #[.slice (some ⟨b1, off1, none⟩) n1 cap1, .slice (some ⟨b2, off2, none⟩) n2 cap2, .int .u32 V] w fun e w' => e = .returned (.bool true) ∧ Below w.heap.size w w' := by
  have HC1 : Hid (∀ j, j < z1.length → w.cell? ⟨b1, off1 + j, none⟩ = some (.int .u8 (z1.getD j 0))) := hc1
  have HC2 : Hid (∀ j, j < z2.length → w.cell? ⟨b2, off2 + j, none⟩ = some (.int .u8 (z2.getD j 0))) := hc2
  clear hc1 hc2
  have g1 : ¬ 65536 < (n1 : Int) := by omega
  have g2 : ¬ 65536 < (n2 : Int) := by omega
  have g3 : ((n1 : Int) == 0) = false := by rw [beq_eq_false_iff_ne]; omega
  have g4 : ((n2 : Int) == 0) = false := by rw [beq_eq_false_iff_ne]; omega
  have g5 : ¬ (n2 : Int) < (n1 : Int) := by omega
  have g6 : (n1 : Int) ≤ 65536 := by omega
  have g7 : (n2 : Int) ≤ 65536 := by omega
  have g8 : (1 : Int) ≤ (n1 : Int) := by omega
  have HL1 : Hid (n1 ≤ 65536) := hl1
  have HL2 : Hid (n2 ≤ 65536) := hl2
  have HV : Hid (V < 4294967296) := hV
  have HP1 : Hid (0 < n1) := hp1
  have HP2 : Hid (0 < n2) := hp2
  have HZ1 : Hid (n1 ≤ z1.length) := hz1
  have HZ2 : Hid (n2 ≤ z2.length) := hz2
  clear hl1 hl2 hV hp1 hp2 hz1 hz2
  go_enter Try.func4, Try.ntmps4
  go_wp2_with fail
  refine (len2_yes _ _ _ _ _ _ _ _ (by omega)).mono ?_
  rintro e w' ⟨rfl, rfl⟩
  go_wp2_with fail
  refine (clone_any b1 off1 n1 cap1 z1 _ HP1.out HL1.out HZ1.out hb1 HC1.out).mono ?_
  rintro e W1 ⟨rfl, ⟨f1, r1⟩, b1'⟩
  have R1 : Hid (W1.rowIs w.heap.size 5 n1 f1) := r1
  have B1 : Hid (Below w.heap.size w W1) := b1'
  clear r1 b1'
  go_wp2_with fail
  refine (clone_any b2 off2 n2 cap2 z2 _ HP2.out HL2.out HZ2.out (Nat.lt_of_lt_of_le hb2 B1.out.size) (fun j hj => (B1.out.cell (p := ⟨b2, off2 + j, none⟩) hb2).trans (HC2.out j hj))).mono ?_
  rintro e W2 ⟨rfl, ⟨f2, r2⟩, b2'⟩
  have L : Hid (w.heap.size < W1.heap.size) := R1.out.lt
  have R2 : Hid (W2.rowIs w.heap.size 5 n1 f1) := R1.out.of_block (b2'.block _ L.out)
  have R2' : Hid (W2.rowIs W1.heap.size 5 n2 f2) := r2
  have B2 : Hid (Below w.heap.size w W2) := B1.out.trans (b2'.mono (Nat.le_of_lt L.out))
  clear r2 b2' R1 B1 HC1 HC2 hb1 hb2
  go_wp2_with fail
  refine (put_any w.heap.size n1 V f1 _ HP1.out HL1.out HV.out R2.out).mono ?_
  rintro e W3 ⟨rfl, r3, o3⟩
  have R3 : Hid (W3.rowIs w.heap.size 5 n1 (fun j => .int .u8 (enc V n1 j))) := r3
  have R3' : Hid (W3.rowIs W1.heap.size 5 n2 f2) := o3.row R2'.out (Nat.ne_of_gt L.out)
  have B3 : Hid (Below w.heap.size w W3) := B2.out.trans (o3.below (Nat.le_refl _))
  clear r3 o3 R2 R2' B2
  go_wp2_with fail
  refine (put_any W1.heap.size n2 V f2 _ HP2.out HL2.out HV.out R3'.out).mono ?_
  rintro e W4 ⟨rfl, r4, o4⟩
  have R4 : Hid (W4.rowIs w.heap.size 5 n1 (fun j => .int .u8 (enc V n1 j))) := o4.row R3.out (Nat.ne_of_lt L.out)
  have R4' : Hid (W4.rowIs W1.heap.size 5 n2 (fun j => .int .u8 (enc V n2 j))) := r4
  have B4 : Hid (Below w.heap.size w W4) := B3.out.trans (o4.below (Nat.le_of_lt L.out))
  clear r4 o4 R3 R3' B3
  go_wp2
  go_loopw [12] (fun i wr => ∃ k : Nat, k ≤ n1 - 1 ∧ i = .int .i64 k ∧ Quiet W4 wr) (fun i _ => n1 - 1 - (intOf i).toNat)
  case atStart => exact ⟨0, Nat.zero_le _, rfl, Quiet.refl _⟩
  case round =>
    obtain ⟨k, hk, rfl, hq⟩ := hrel
    have HQ : Hid (Quiet W4 wr) := hq
    clear hq
    by_cases hlt : k < n1 - 1
    · have c1 := (HQ.out.row R4.out).cell (show k < n1 by omega)
      have c2 := (HQ.out.row R4'.out).cell (show k < n2 by omega)
      have hs := head_same V n1 n2 k hlt (Nat.le_of_lt hle)
      simp only [← hs] at c2
      clear hs
      generalize enc V n1 k = c at c1 c2
      have i1 : (k : Int) < (n1 : Int) - 1 := by omega
      have i2 : (k : Int) < (n1 : Int) := by omega
      have i3 : (k : Int) < (n2 : Int) := by omega
      have i4 : (0 : Int) ≤ (k : Int) := by omega
      go_wp2
      go_quiet (fail)
      go_wp2
      go_roundw
      case rel => exact ⟨k + 1, by omega, by go_num, HQ.out⟩
      case measure => simp [intOf]; omega
    · have i1 : ¬ (k : Int) < (n1 : Int) - 1 := by omega
      have HW : Hid (Below w.heap.size w wr) := B4.out.trans (HQ.out.below _)
      have R5 : Hid (wr.rowIs w.heap.size 5 n1 (fun j => .int .u8 (enc V n1 j))) := HQ.out.row R4.out
      have R5' : Hid (wr.rowIs W1.heap.size 5 n2 (fun j => .int .u8 (enc V n2 j))) := HQ.out.row R4'.out
      clear R4 R4' B4 HQ
      have c1 := R5.out.cell (show n1 - 1 < n1 by have := HP1.out; have := HP2.out; omega)
      have c2 := R5'.out.cell (show n1 - 1 < n2 by omega)
      have c3 := R5'.out.cell (show n1 < n2 by omega)
      have f1 := ne_self _ _ (low_same V n1 n2 HP1.out (by omega))
      have f2 := ne_self _ _ (top_low V n1 n2 HP1.out (by omega))
      have f3 : ((n2 : Int) == (n1 : Int)) = false := by rw [beq_eq_false_iff_ne]; omega
      generalize enc V n1 (n1 - 1) = c at c1 f1 f2
      generalize enc V n2 (n1 - 1) = d at c2 f1
      generalize enc V n2 n1 = u at c3 f2
      have i5 : (0 : Int) ≤ (n1 : Int) - 1 := by omega
      have i6 : (n1 : Int) - 1 < (n1 : Int) := by omega
      have i7 : (n1 : Int) - 1 < (n2 : Int) := by omega
      have i8 : (n1 : Int) < (n2 : Int) := by omega
      go_wp2
      go_quiet (fail)
      go_wp2
      go_quiet (fail)
      by_cases x1 : fitB n1 V = true
      · have X1 : Hid (fitB n1 V = true) := x1
        clear x1
        go_wp2_with fail
        refine (fits_is n1 V true HV.out X1.out _).mono ?_
        rintro e w' ⟨rfl, rfl⟩
        go_wp2_with fail
        refine (dec_any w.heap.size n1 V _ HP1.out HL1.out HV.out (fit_or X1.out) (row_drewN R5.out _)).mono ?_
        rintro e w' ⟨rfl, rfl⟩
        by_cases x2 : fitB n2 V = true
        · have X2 : Hid (fitB n2 V = true) := x2
          clear x2
          go_wp2_with fail
          refine (fits_is n2 V true HV.out X2.out _).mono ?_
          rintro e w' ⟨rfl, rfl⟩
          go_wp2_with fail
          refine (dec_any W1.heap.size n2 V _ HP2.out HL2.out HV.out (fit_or X2.out) (row_drewN R5'.out _)).mono ?_
          rintro e w' ⟨rfl, rfl⟩
          go_wp2
          go_ret
          exact ⟨rfl, below_drewN HW.out _⟩
        · have X2 : Hid (fitB n2 V = false) := by show _ = _; simpa using x2
          clear x2
          go_wp2_with fail
          refine (fits_is n2 V false HV.out X2.out _).mono ?_
          rintro e w' ⟨rfl, rfl⟩
          go_wp2
          go_ret
          exact ⟨rfl, below_drewN HW.out _⟩
      · have X1 : Hid (fitB n1 V = false) := by show _ = _; simpa using x1
        clear x1
        go_wp2_with fail
        refine (fits_is n1 V false HV.out X1.out _).mono ?_
        rintro e w' ⟨rfl, rfl⟩
        by_cases x2 : fitB n2 V = true
        · have X2 : Hid (fitB n2 V = true) := x2
          clear x2
          go_wp2_with fail
          refine (fits_is n2 V true HV.out X2.out _).mono ?_
          rintro e w' ⟨rfl, rfl⟩
          go_wp2_with fail
          refine (dec_any W1.heap.size n2 V _ HP2.out HL2.out HV.out (fit_or X2.out) (row_drewN R5'.out _)).mono ?_
          rintro e w' ⟨rfl, rfl⟩
          go_wp2
          go_ret
          exact ⟨rfl, below_drewN HW.out _⟩
        · have X2 : Hid (fitB n2 V = false) := by show _ = _; simpa using x2
          clear x2
          go_wp2_with fail
          refine (fits_is n2 V false HV.out X2.out _).mono ?_
          rintro e w' ⟨rfl, rfl⟩
          go_wp2
          go_ret
          exact ⟨rfl, below_drewN HW.out _⟩

set_option maxHeartbeats 1000000 in
set_option maxRecDepth 100000 in
theorem agree_gt (b1 off1 n1 cap1 : Nat) (z1 : List Int) (b2 off2 n2 cap2 : Nat) (z2 : List Int) (V : Nat) (w : World) (hp1 : 0 < n1) (hp2 : 0 < n2) (hl1 : n1 ≤ 65536) (hl2 : n2 ≤ 65536) (hz1 : n1 ≤ z1.length) (hz2 : n2 ≤ z2.length)
    (hb1 : b1 < w.heap.size) (hb2 : b2 < w.heap.size) (hV : V < 4294967296)
    (hc1 : ∀ j, j < z1.length → w.cell? ⟨b1, off1 + j, none⟩ = some (.int .u8 (z1.getD j 0)))
    (hc2 : ∀ j, j < z2.length → w.cell? ⟨b2, off2 + j, none⟩ = some (.int .u8 (z2.getD j 0))) (hle : n2 < n1) :
    Calls Try.prog 4 #[.slice (some ⟨b1, off1, none⟩) n1 cap1, .slice (some ⟨b2, off2, none⟩) n2 cap2, .int .u32 V] w fun e w' => e = .returned (.bool true) ∧ Below w.heap.size w w' := by
  have HC1 : Hid (∀ j, j < z1.length → w.cell? ⟨b1, off1 + j, none⟩ = some (.int .u8 (z1.getD j 0))) := hc1
  have HC2 : Hid (∀ j, j < z2.length → w.cell? ⟨b2, off2 + j, none⟩ = some (.int .u8 (z2.getD j 0))) := hc2
  clear hc1 hc2
  have g1 : ¬ 65536 < (n1 : Int) := by omega
  have g2 : ¬ 65536 < (n2 : Int) := by omega
  have g3 : ((n1 : Int) == 0) = false := by rw [beq_eq_false_iff_ne]; omega
  have g4 : ((n2 : Int) == 0) = false := by rw [beq_eq_false_iff_ne]; omega
  have g5 : (n2 : Int) < (n1 : Int) := by omega
  have g6 : (n1 : Int) ≤ 65536 := by omega
  have g7 : (n2 : Int) ≤ 65536 := by omega
  have g8 : (1 : Int) ≤ (n2 : Int) := by omega
  have HL1 : Hid (n1 ≤ 65536) := hl1
  have HL2 : Hid (n2 ≤ 65536) := hl2
  have HV : Hid (V < 4294967296) := hV
  have HP1 : Hid (0 < n1) := hp1
  have HP2 : Hid (0 < n2) := hp2
  have HZ1 : Hid (n1 ≤ z1.length) := hz1
  have HZ2 : Hid (n2 ≤ z2.length) := hz2
  clear hl1 hl2 hV hp1 hp2 hz1 hz2
  go_enter Try.func4, Try.ntmps4
  go_wp2_with fail
  refine (len2_yes _ _ _ _ _ _ _ _ (by omega)).mono ?_
  rintro e w' ⟨rfl, rfl⟩
  go_wp2_with fail
  refine (clone_any b1 off1 n1 cap1 z1 _ HP1.out HL1.out HZ1.out hb1 HC1.out).mono ?_
  rintro e W1 ⟨rfl, ⟨f1, r1⟩, b1'⟩
  have R1 : Hid (W1.rowIs w.heap.size 5 n1 f1) := r1
  have B1 : Hid (Below w.heap.size w W1) := b1'
  clear r1 b1'
  go_wp2_with fail
  refine (clone_any b2 off2 n2 cap2 z2 _ HP2.out HL2.out HZ2.out (Nat.lt_of_lt_of_le hb2 B1.out.size) (fun j hj => (B1.out.cell (p := ⟨b2, off2 + j, none⟩) hb2).trans (HC2.out j hj))).mono ?_
  rintro e W2 ⟨rfl, ⟨f2, r2⟩, b2'⟩
  have L : Hid (w.heap.size < W1.heap.size) := R1.out.lt
  have R2 : Hid (W2.rowIs w.heap.size 5 n1 f1) := R1.out.of_block (b2'.block _ L.out)
  have R2' : Hid (W2.rowIs W1.heap.size 5 n2 f2) := r2
  have B2 : Hid (Below w.heap.size w W2) := B1.out.trans (b2'.mono (Nat.le_of_lt L.out))
  clear r2 b2' R1 B1 HC1 HC2 hb1 hb2
  go_wp2_with fail
  refine (put_any w.heap.size n1 V f1 _ HP1.out HL1.out HV.out R2.out).mono ?_
  rintro e W3 ⟨rfl, r3, o3⟩
  have R3 : Hid (W3.rowIs w.heap.size 5 n1 (fun j => .int .u8 (enc V n1 j))) := r3
  have R3' : Hid (W3.rowIs W1.heap.size 5 n2 f2) := o3.row R2'.out (Nat.ne_of_gt L.out)
  have B3 : Hid (Below w.heap.size w W3) := B2.out.trans (o3.below (Nat.le_refl _))
  clear r3 o3 R2 R2' B2
  go_wp2_with fail
  refine (put_any W1.heap.size n2 V f2 _ HP2.out HL2.out HV.out R3'.out).mono ?_
  rintro e W4 ⟨rfl, r4, o4⟩
  have R4 : Hid (W4.rowIs w.heap.size 5 n1 (fun j => .int .u8 (enc V n1 j))) := o4.row R3.out (Nat.ne_of_lt L.out)
  have R4' : Hid (W4.rowIs W1.heap.size 5 n2 (fun j => .int .u8 (enc V n2 j))) := r4
  have B4 : Hid (Below w.heap.size w W4) := B3.out.trans (o4.below (Nat.le_of_lt L.out))
  clear r4 o4 R3 R3' B3
  go_wp2
  go_loopw [12] (fun i wr => ∃ k : Nat, k ≤ n2 - 1 ∧ i = .int .i64 k ∧ Quiet W4 wr) (fun i _ => n2 - 1 - (intOf i).toNat)
  case atStart => exact ⟨0, Nat.zero_le _, rfl, Quiet.refl _⟩
  case round =>
    obtain ⟨k, hk, rfl, hq⟩ := hrel
    have HQ : Hid (Quiet W4 wr) := hq
    clear hq
    by_cases hlt : k < n2 - 1
    · have c1 := (HQ.out.row R4'.out).cell (show k < n2 by omega)
      have c2 := (HQ.out.row R4.out).cell (show k < n1 by omega)
      have hs := head_same V n2 n1 k hlt (Nat.le_of_lt hle)
      simp only [← hs] at c2
      clear hs
      generalize enc V n2 k = c at c1 c2
      have i1 : (k : Int) < (n2 : Int) - 1 := by omega
      have i2 : (k : Int) < (n2 : Int) := by omega
      have i3 : (k : Int) < (n1 : Int) := by omega
      have i4 : (0 : Int) ≤ (k : Int) := by omega
      go_wp2
      go_quiet (fail)
      go_wp2
      go_roundw
      case rel => exact ⟨k + 1, by omega, by go_num, HQ.out⟩
      case measure => simp [intOf]; omega
    · have i1 : ¬ (k : Int) < (n2 : Int) - 1 := by omega
      have HW : Hid (Below w.heap.size w wr) := B4.out.trans (HQ.out.below _)
      have R5 : Hid (wr.rowIs w.heap.size 5 n1 (fun j => .int .u8 (enc V n1 j))) := HQ.out.row R4.out
      have R5' : Hid (wr.rowIs W1.heap.size 5 n2 (fun j => .int .u8 (enc V n2 j))) := HQ.out.row R4'.out
      clear R4 R4' B4 HQ
      have c1 := R5'.out.cell (show n2 - 1 < n2 by have := HP1.out; have := HP2.out; omega)
      have c2 := R5.out.cell (show n2 - 1 < n1 by omega)
      have c3 := R5.out.cell (show n2 < n1 by omega)
      have f1 := ne_self _ _ (low_same V n2 n1 HP2.out (by omega))
      have f2 := ne_self _ _ (top_low V n2 n1 HP2.out (by omega))
      have f3 : ((n1 : Int) == (n2 : Int)) = false := by rw [beq_eq_false_iff_ne]; omega
      generalize enc V n2 (n2 - 1) = c at c1 f1 f2
      generalize enc V n1 (n2 - 1) = d at c2 f1
      generalize enc V n1 n2 = u at c3 f2
      have i5 : (0 : Int) ≤ (n2 : Int) - 1 := by omega
      have i6 : (n2 : Int) - 1 < (n2 : Int) := by omega
      have i7 : (n2 : Int) - 1 < (n1 : Int) := by omega
      have i8 : (n2 : Int) < (n1 : Int) := by omega
      go_wp2
      go_quiet (fail)
      go_wp2
      go_quiet (fail)
      by_cases x1 : fitB n1 V = true
      · have X1 : Hid (fitB n1 V = true) := x1
        clear x1
        go_wp2_with fail
        refine (fits_is n1 V true HV.out X1.out _).mono ?_
        rintro e w' ⟨rfl, rfl⟩
        go_wp2_with fail
        refine (dec_any w.heap.size n1 V _ HP1.out HL1.out HV.out (fit_or X1.out) (row_drewN R5.out _)).mono ?_
        rintro e w' ⟨rfl, rfl⟩
        by_cases x2 : fitB n2 V = true
        · have X2 : Hid (fitB n2 V = true) := x2
          clear x2
          go_wp2_with fail
          refine (fits_is n2 V true HV.out X2.out _).mono ?_
          rintro e w' ⟨rfl, rfl⟩
          go_wp2_with fail
          refine (dec_any W1.heap.size n2 V _ HP2.out HL2.out HV.out (fit_or X2.out) (row_drewN R5'.out _)).mono ?_
          rintro e w' ⟨rfl, rfl⟩
          go_wp2
          go_ret
          exact ⟨rfl, below_drewN HW.out _⟩
        · have X2 : Hid (fitB n2 V = false) := by show _ = _; simpa using x2
          clear x2
          go_wp2_with fail
          refine (fits_is n2 V false HV.out X2.out _).mono ?_
          rintro e w' ⟨rfl, rfl⟩
          go_wp2
          go_ret
          exact ⟨rfl, below_drewN HW.out _⟩
      · have X1 : Hid (fitB n1 V = false) := by show _ = _; simpa using x1
        clear x1
        go_wp2_with fail
        refine (fits_is n1 V false HV.out X1.out _).mono ?_
        rintro e w' ⟨rfl, rfl⟩
        by_cases x2 : fitB n2 V = true
        · have X2 : Hid (fitB n2 V = true) := x2
          clear x2
          go_wp2_with fail
          refine (fits_is n2 V true HV.out X2.out _).mono ?_
          rintro e w' ⟨rfl, rfl⟩
          go_wp2_with fail
          refine (dec_any W1.heap.size n2 V _ HP2.out HL2.out HV.out (fit_or X2.out) (row_drewN R5'.out _)).mono ?_
          rintro e w' ⟨rfl, rfl⟩
          go_wp2
          go_ret
          exact ⟨rfl, below_drewN HW.out _⟩
        · have X2 : Hid (fitB n2 V = false) := by show _ = _; simpa using x2
          clear x2
          go_wp2_with fail
          refine (fits_is n2 V false HV.out X2.out _).mono ?_
          rintro e w' ⟨rfl, rfl⟩
          go_wp2
          go_ret
          exact ⟨rfl, below_drewN HW.out _⟩

set_option maxHeartbeats 1000000 in
set_option maxRecDepth 100000 in
theorem agree_eq (b1 off1 n1 cap1 : Nat) (z1 : List Int) (b2 off2 cap2 : Nat) (z2 : List Int) (V : Nat) (w : World) (hp1 : 0 < n1) (hl1 : n1 ≤ 65536) (hz1 : n1 ≤ z1.length) (hz2 : n1 ≤ z2.length)
    (hb1 : b1 < w.heap.size) (hb2 : b2 < w.heap.size) (hV : V < 4294967296)
    (hc1 : ∀ j, j < z1.length → w.cell? ⟨b1, off1 + j, none⟩ = some (.int .u8 (z1.getD j 0)))
    (hc2 : ∀ j, j < z2.length → w.cell? ⟨b2, off2 + j, none⟩ = some (.int .u8 (z2.getD j 0))) :
    Calls Try.prog 4 #[.slice (some ⟨b1, off1, none⟩) n1 cap1, .slice (some ⟨b2, off2, none⟩) n1 cap2, .int .u32 V] w fun e w' => e = .returned (.bool true) ∧ Below w.heap.size w w' := by
  have HC1 : Hid (∀ j, j < z1.length → w.cell? ⟨b1, off1 + j, none⟩ = some (.int .u8 (z1.getD j 0))) := hc1
  have HC2 : Hid (∀ j, j < z2.length → w.cell? ⟨b2, off2 + j, none⟩ = some (.int .u8 (z2.getD j 0))) := hc2
  clear hc1 hc2
  have g1 : ¬ 65536 < (n1 : Int) := by omega
  have g3 : ((n1 : Int) == 0) = false := by rw [beq_eq_false_iff_ne]; omega
  have g6 : (n1 : Int) ≤ 65536 := by omega
  have g8 : (1 : Int) ≤ (n1 : Int) := by omega
  have HL1 : Hid (n1 ≤ 65536) := hl1
  have HL2 : Hid (n1 ≤ 65536) := hl1
  have HV : Hid (V < 4294967296) := hV
  have HP1 : Hid (0 < n1) := hp1
  have HP2 : Hid (0 < n1) := hp1
  have HZ1 : Hid (n1 ≤ z1.length) := hz1
  have HZ2 : Hid (n1 ≤ z2.length) := hz2
  clear hl1 hV hp1 hz1 hz2
  go_enter Try.func4, Try.ntmps4
  go_wp2_with fail
  refine (len2_yes _ _ _ _ _ _ _ _ (by omega)).mono ?_
  rintro e w' ⟨rfl, rfl⟩
  go_wp2_with fail
  refine (clone_any b1 off1 n1 cap1 z1 _ HP1.out HL1.out HZ1.out hb1 HC1.out).mono ?_
  rintro e W1 ⟨rfl, ⟨f1, r1⟩, b1'⟩
  have R1 : Hid (W1.rowIs w.heap.size 5 n1 f1) := r1
  have B1 : Hid (Below w.heap.size w W1) := b1'
  clear r1 b1'
  go_wp2_with fail
  refine (clone_any b2 off2 n1 cap2 z2 _ HP2.out HL2.out HZ2.out (Nat.lt_of_lt_of_le hb2 B1.out.size) (fun j hj => (B1.out.cell (p := ⟨b2, off2 + j, none⟩) hb2).trans (HC2.out j hj))).mono ?_
  rintro e W2 ⟨rfl, ⟨f2, r2⟩, b2'⟩
  have L : Hid (w.heap.size < W1.heap.size) := R1.out.lt
  have R2 : Hid (W2.rowIs w.heap.size 5 n1 f1) := R1.out.of_block (b2'.block _ L.out)
  have R2' : Hid (W2.rowIs W1.heap.size 5 n1 f2) := r2
  have B2 : Hid (Below w.heap.size w W2) := B1.out.trans (b2'.mono (Nat.le_of_lt L.out))
  clear r2 b2' R1 B1 HC1 HC2 hb1 hb2
  go_wp2_with fail
  refine (put_any w.heap.size n1 V f1 _ HP1.out HL1.out HV.out R2.out).mono ?_
  rintro e W3 ⟨rfl, r3, o3⟩
  have R3 : Hid (W3.rowIs w.heap.size 5 n1 (fun j => .int .u8 (enc V n1 j))) := r3
  have R3' : Hid (W3.rowIs W1.heap.size 5 n1 f2) := o3.row R2'.out (Nat.ne_of_gt L.out)
  have B3 : Hid (Below w.heap.size w W3) := B2.out.trans (o3.below (Nat.le_refl _))
  clear r3 o3 R2 R2' B2
  go_wp2_with fail
  refine (put_any W1.heap.size n1 V f2 _ HP2.out HL2.out HV.out R3'.out).mono ?_
  rintro e W4 ⟨rfl, r4, o4⟩
  have R4 : Hid (W4.rowIs w.heap.size 5 n1 (fun j => .int .u8 (enc V n1 j))) := o4.row R3.out (Nat.ne_of_lt L.out)
  have R4' : Hid (W4.rowIs W1.heap.size 5 n1 (fun j => .int .u8 (enc V n1 j))) := r4
  have B4 : Hid (Below w.heap.size w W4) := B3.out.trans (o4.below (Nat.le_of_lt L.out))
  clear r4 o4 R3 R3' B3
  go_wp2
  go_loopw [12] (fun i wr => ∃ k : Nat, k ≤ n1 - 1 ∧ i = .int .i64 k ∧ Quiet W4 wr) (fun i _ => n1 - 1 - (intOf i).toNat)
  case atStart => exact ⟨0, Nat.zero_le _, rfl, Quiet.refl _⟩
  case round =>
    obtain ⟨k, hk, rfl, hq⟩ := hrel
    have HQ : Hid (Quiet W4 wr) := hq
    clear hq
    by_cases hlt : k < n1 - 1
    · have c1 := (HQ.out.row R4.out).cell (show k < n1 by omega)
      have c2 := (HQ.out.row R4'.out).cell (show k < n1 by omega)
      generalize enc V n1 k = c at c1 c2
      have i1 : (k : Int) < (n1 : Int) - 1 := by omega
      have i2 : (k : Int) < (n1 : Int) := by omega
      have i3 : (k : Int) < (n1 : Int) := by omega
      have i4 : (0 : Int) ≤ (k : Int) := by omega
      go_wp2
      go_quiet (fail)
      go_wp2
      go_roundw
      case rel => exact ⟨k + 1, by omega, by go_num, HQ.out⟩
      case measure => simp [intOf]; omega
    · have i1 : ¬ (k : Int) < (n1 : Int) - 1 := by omega
      have HW : Hid (Below w.heap.size w wr) := B4.out.trans (HQ.out.below _)
      have R5 : Hid (wr.rowIs w.heap.size 5 n1 (fun j => .int .u8 (enc V n1 j))) := HQ.out.row R4.out
      have R5' : Hid (wr.rowIs W1.heap.size 5 n1 (fun j => .int .u8 (enc V n1 j))) := HQ.out.row R4'.out
      clear R4 R4' B4 HQ
      have c1 := R5.out.cell (show n1 - 1 < n1 by have := HP1.out; omega)
      have c2 := R5'.out.cell (show n1 - 1 < n1 by have := HP1.out; omega)
      generalize enc V n1 (n1 - 1) = c at c1 c2
      have i5 : (0 : Int) ≤ (n1 : Int) - 1 := by omega
      have i6 : (n1 : Int) - 1 < (n1 : Int) := by omega
      go_wp2
      go_quiet (fail)
      by_cases x1 : fitB n1 V = true
      · have X1 : Hid (fitB n1 V = true) := x1
        clear x1
        go_wp2_with fail
        refine (fits_is n1 V true HV.out X1.out _).mono ?_
        rintro e w' ⟨rfl, rfl⟩
        go_wp2_with fail
        refine (dec_any w.heap.size n1 V _ HP1.out HL1.out HV.out (fit_or X1.out) (row_drewN R5.out _)).mono ?_
        rintro e w' ⟨rfl, rfl⟩
        by_cases x2 : fitB n1 V = true
        · have X2 : Hid (fitB n1 V = true) := x2
          clear x2
          go_wp2_with fail
          refine (fits_is n1 V true HV.out X2.out _).mono ?_
          rintro e w' ⟨rfl, rfl⟩
          go_wp2_with fail
          refine (dec_any W1.heap.size n1 V _ HP2.out HL2.out HV.out (fit_or X2.out) (row_drewN R5'.out _)).mono ?_
          rintro e w' ⟨rfl, rfl⟩
          go_wp2
          go_ret
          exact ⟨rfl, below_drewN HW.out _⟩
        · have X2 : Hid (fitB n1 V = false) := by show _ = _; simpa using x2
          clear x2
          go_wp2_with fail
          refine (fits_is n1 V false HV.out X2.out _).mono ?_
          rintro e w' ⟨rfl, rfl⟩
          go_wp2
          go_ret
          exact ⟨rfl, below_drewN HW.out _⟩
      · have X1 : Hid (fitB n1 V = false) := by show _ = _; simpa using x1
        clear x1
        go_wp2_with fail
        refine (fits_is n1 V false HV.out X1.out _).mono ?_
        rintro e w' ⟨rfl, rfl⟩
        by_cases x2 : fitB n1 V = true
        · have X2 : Hid (fitB n1 V = true) := x2
          clear x2
          go_wp2_with fail
          refine (fits_is n1 V true HV.out X2.out _).mono ?_
          rintro e w' ⟨rfl, rfl⟩
          go_wp2_with fail
          refine (dec_any W1.heap.size n1 V _ HP2.out HL2.out HV.out (fit_or X2.out) (row_drewN R5'.out _)).mono ?_
          rintro e w' ⟨rfl, rfl⟩
          go_wp2
          go_ret
          exact ⟨rfl, below_drewN HW.out _⟩
        · have X2 : Hid (fitB n1 V = false) := by show _ = _; simpa using x2
          clear x2
          go_wp2_with fail
          refine (fits_is n1 V false HV.out X2.out _).mono ?_
          rintro e w' ⟨rfl, rfl⟩
          go_wp2
          go_ret
          exact ⟨rfl, below_drewN HW.out _⟩
end Go.Proofs.Qxb6628773a
