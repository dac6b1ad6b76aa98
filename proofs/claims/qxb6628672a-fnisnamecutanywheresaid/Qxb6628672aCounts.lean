/-
  The walks of zzOneByteB1 and of the three counts.
-/
import Derived.Test.Qxb6628672aIsName
import Derived.Deep.OwnRows
import Derived.Laws.IdiomStrings
namespace Go.Proofs.Qxb6628672a
open Go.RowKit

def one (c : Nat) : ByteArray := ⟨#[UInt8.ofNat c]⟩

set_option maxHeartbeats 400000 in
theorem oneByte_any (c : Nat) (w : World) (hc : c < 256) :
    Calls Try.prog 12 #[.int .i64 c] w fun e w' => e = .returned (.string (one c)) ∧ Below w.heap.size w w' := by
  have hmk : ∀ W : World, (Instr.makeSlice 27 (.int .i64 1) (.int .i64 1)).run Try.prog W = .ok (.slice (some ⟨W.heap.size, 0, none⟩) 1 1) (W.alloc (.cells #[.int .u8 0] 5)) := fun _ => by kernel_rfl
  have hcv : (convert 27 9 (.slice (some ⟨w.heap.size, 0, none⟩) 1 1)).run Try.prog (w.alloc (.cells #[.int .u8 c] 5)) = .ok (.string (one c)) (w.alloc (.cells #[.int .u8 c] 5)) := by
    have h := run_convert_bytes_back (P := Try.prog) (w.alloc (.cells #[.int .u8 c] 5)) 27 9 5 ⟨w.heap.size, 0, none⟩ 1 [UInt8.ofNat c] Try.underlying27 Try.underlying5 Try.underlying9 (by
      intro j hj
      have : j = 0 := by simpa using hj
      subst this
      have e : c % 256 = c := Nat.mod_eq_of_lt hc
      simp [Addr.add, e])
    exact h
  go_enter Try.func12, Try.ntmps12
  go_wp2
  go_ret
  exact ⟨rfl, (Below.refl _ _).alloc (Nat.le_refl _) _⟩

/-- how many c below k the test lets by -/
def cf (f : UInt8 → Bool) : Nat → Nat
  | 0 => 0
  | k + 1 => cf f k + if f (UInt8.ofNat k) = true then 1 else 0

theorem cf_le (f : UInt8 → Bool) : ∀ k, cf f k ≤ k
  | 0 => Nat.le_refl _
  | k + 1 => by have := cf_le f k; simp only [cf]; split <;> omega

def restB (c : UInt8) : Bool := P.letB c || P.digB c
def onlyB (c : UInt8) : Bool := restB c && !P.letB c

theorem first_53 : cf P.letB 256 = 53 := by decide +kernel
theorem rest_63 : cf restB 256 = 63 := by decide +kernel
theorem only_10 : cf onlyB 256 = 10 := by decide +kernel

theorem isName_one (c : Nat) (w : World) (v : Bool) (hv : P.letB (UInt8.ofNat c) = v) :
    Calls Try.prog 6 #[.string (one c)] w fun e w' => e = .returned (.bool v) ∧ Below w.heap.size w w' := by
  have h := isName_any (one c) w (by show 1 ≤ _; unfold maxLen; omega)
  have e : P.nm (one c).data.toList = v := by
    show P.nm [UInt8.ofNat c] = v
    rw [P.nm_cons, hv]; simp
  rw [e] at h
  exact h

theorem isName_two (c : Nat) (w : World) (v : Bool) (hv : restB (UInt8.ofNat c) = v) :
    Calls Try.prog 6 #[.string ({ data := #[95] } ++ one c)] w fun e w' => e = .returned (.bool v) ∧ Below w.heap.size w w' := by
  have h := isName_any ((⟨#[95]⟩ : ByteArray) ++ one c) w (by
    rw [ByteArray.size_append]; show 1 + 1 ≤ _; unfold maxLen; omega)
  have e : P.nm ((⟨#[95]⟩ : ByteArray) ++ one c).data.toList = v := by
    rw [ByteArray.data_append]
    show P.nm [95, UInt8.ofNat c] = v
    have : P.letB 95 = true := by decide
    rw [P.nm_cons, this, ← hv]; simp [restB]
  rw [e] at h
  exact h

theorem cf_yes (f : UInt8 → Bool) (k : Nat) (h : f (UInt8.ofNat k) = true) : ((cf f (k + 1) : Nat) : Int) = (cf f k : Int) + 1 := by
  show ((cf f k + _ : Nat) : Int) = _
  rw [if_pos h]; simp
theorem cf_no (f : UInt8 → Bool) (k : Nat) (h : ¬ f (UInt8.ofNat k) = true) : ((cf f (k + 1) : Nat) : Int) = (cf f k : Int) := by
  show ((cf f k + _ : Nat) : Int) = _
  rw [if_neg h]; simp

theorem ret_int {k : IntKind} {a b : Int} (h : a = b) : Ending.returned (.int k a) = .returned (.int k b) := by rw [h]

set_option maxHeartbeats 400000 in
set_option maxRecDepth 100000 in
theorem countFirst_any (w : World) :
    Calls Try.prog 7 #[] w fun e w' => e = .returned (.int .i64 53) ∧ Below w.heap.size w w' := by
  go_enter Try.func7, Try.ntmps7
  go_wp2_with fail
  go_loopw [1, 2] (fun n i wr => ∃ k : Nat, k ≤ 256 ∧ i = .int .i64 k ∧ n = .int .i64 (cf P.letB k) ∧ Below w.heap.size w wr) (fun _ i _ => 256 - (intOf i).toNat)
  case atStart => exact ⟨0, Nat.zero_le _, rfl, rfl, Below.refl _ _⟩
  case round =>
    obtain ⟨k, hk, rfl, rfl, hb⟩ := hrel
    have hcl := cf_le P.letB k
    have HB : Hid (Below w.heap.size w wr) := hb
    clear hb
    by_cases hlt : k < 256
    · by_cases hok : P.letB (UInt8.ofNat k) = true
      · have HO : Hid (P.letB (UInt8.ofNat k) = true) := hok
        clear hok
        go_wp2_with fail
        refine (oneByte_any k _ hlt).mono ?_
        rintro e w1 ⟨rfl, b1⟩
        go_wp2_with fail
        refine (isName_one k _ true HO.out).mono ?_
        rintro e w2 ⟨rfl, b2⟩
        go_wp2
        go_roundw
        case rel => exact ⟨k + 1, by omega, by go_num, by rw [cf_yes _ _ HO.out], (HB.out.trans (b1.mono HB.out.size)).trans (b2.mono (Nat.le_trans HB.out.size b1.size))⟩
        case measure => simp [intOf]; omega
      · have HO : Hid (¬ P.letB (UInt8.ofNat k) = true) := hok
        clear hok
        go_wp2_with fail
        refine (oneByte_any k _ hlt).mono ?_
        rintro e w1 ⟨rfl, b1⟩
        go_wp2_with fail
        refine (isName_one k _ false (by simpa using HO.out)).mono ?_
        rintro e w2 ⟨rfl, b2⟩
        go_wp2
        go_roundw
        case rel => exact ⟨k + 1, by omega, by go_num, by rw [cf_no _ _ HO.out], (HB.out.trans (b1.mono HB.out.size)).trans (b2.mono (Nat.le_trans HB.out.size b1.size))⟩
        case measure => simp [intOf]; omega
    · have hkk : k = 256 := by omega
      subst hkk
      go_wp2
      go_ret
      exact ⟨ret_int (by rw [first_53]; rfl), HB.out⟩

set_option maxHeartbeats 400000 in
set_option maxRecDepth 100000 in
theorem countRest_any (w : World) :
    Calls Try.prog 8 #[] w fun e w' => e = .returned (.int .i64 63) ∧ Below w.heap.size w w' := by
  go_enter Try.func8, Try.ntmps8
  go_wp2_with fail
  go_loopw [1, 2] (fun n i wr => ∃ k : Nat, k ≤ 256 ∧ i = .int .i64 k ∧ n = .int .i64 (cf restB k) ∧ Below w.heap.size w wr) (fun _ i _ => 256 - (intOf i).toNat)
  case atStart => exact ⟨0, Nat.zero_le _, rfl, rfl, Below.refl _ _⟩
  case round =>
    obtain ⟨k, hk, rfl, rfl, hb⟩ := hrel
    have hcl := cf_le restB k
    have HB : Hid (Below w.heap.size w wr) := hb
    clear hb
    by_cases hlt : k < 256
    · by_cases hok : restB (UInt8.ofNat k) = true
      · have HO : Hid (restB (UInt8.ofNat k) = true) := hok
        clear hok
        go_wp2_with fail
        refine (oneByte_any k _ hlt).mono ?_
        rintro e w1 ⟨rfl, b1⟩
        go_wp2_with fail
        refine (isName_two k _ true HO.out).mono ?_
        rintro e w2 ⟨rfl, b2⟩
        go_wp2
        go_roundw
        case rel => exact ⟨k + 1, by omega, by go_num, by rw [cf_yes _ _ HO.out], (HB.out.trans (b1.mono HB.out.size)).trans (b2.mono (Nat.le_trans HB.out.size b1.size))⟩
        case measure => simp [intOf]; omega
      · have HO : Hid (¬ restB (UInt8.ofNat k) = true) := hok
        clear hok
        go_wp2_with fail
        refine (oneByte_any k _ hlt).mono ?_
        rintro e w1 ⟨rfl, b1⟩
        go_wp2_with fail
        refine (isName_two k _ false (by simpa using HO.out)).mono ?_
        rintro e w2 ⟨rfl, b2⟩
        go_wp2
        go_roundw
        case rel => exact ⟨k + 1, by omega, by go_num, by rw [cf_no _ _ HO.out], (HB.out.trans (b1.mono HB.out.size)).trans (b2.mono (Nat.le_trans HB.out.size b1.size))⟩
        case measure => simp [intOf]; omega
    · have hkk : k = 256 := by omega
      subst hkk
      go_wp2
      go_ret
      exact ⟨ret_int (by rw [rest_63]; rfl), HB.out⟩

set_option maxHeartbeats 400000 in
set_option maxRecDepth 100000 in
theorem countOnly_any (w : World) :
    Calls Try.prog 9 #[] w fun e w' => e = .returned (.int .i64 10) ∧ Below w.heap.size w w' := by
  go_enter Try.func9, Try.ntmps9
  go_wp2_with fail
  go_loopw [1, 2] (fun n i wr => ∃ k : Nat, k ≤ 256 ∧ i = .int .i64 k ∧ n = .int .i64 (cf onlyB k) ∧ Below w.heap.size w wr) (fun _ i _ => 256 - (intOf i).toNat)
  case atStart => exact ⟨0, Nat.zero_le _, rfl, rfl, Below.refl _ _⟩
  case round =>
    obtain ⟨k, hk, rfl, rfl, hb⟩ := hrel
    have hcl := cf_le onlyB k
    have HB : Hid (Below w.heap.size w wr) := hb
    clear hb
    by_cases hlt : k < 256
    · by_cases hok : restB (UInt8.ofNat k) = true
      · by_cases hol : P.letB (UInt8.ofNat k) = true
        · have HO : Hid (restB (UInt8.ofNat k) = true) := hok
          have HL : Hid (P.letB (UInt8.ofNat k) = true) := hol
          have HN : Hid (¬ onlyB (UInt8.ofNat k) = true) := by show ¬ _; unfold onlyB; rw [hok, hol]; exact Bool.false_ne_true
          clear hok hol
          go_wp2_with fail
          refine (oneByte_any k _ hlt).mono ?_
          rintro e w1 ⟨rfl, b1⟩
          go_wp2_with fail
          refine (isName_two k _ true HO.out).mono ?_
          rintro e w2 ⟨rfl, b2⟩
          go_wp2_with fail
          refine (isName_one k _ true HL.out).mono ?_
          rintro e w3 ⟨rfl, b3⟩
          go_wp2
          go_roundw
          case rel => exact ⟨k + 1, by omega, by go_num, by rw [cf_no _ _ HN.out], ((HB.out.trans (b1.mono HB.out.size)).trans (b2.mono (Nat.le_trans HB.out.size b1.size))).trans (b3.mono (Nat.le_trans HB.out.size (Nat.le_trans b1.size b2.size)))⟩
          case measure => simp [intOf]; omega
        · have HO : Hid (restB (UInt8.ofNat k) = true) := hok
          have hol' : P.letB (UInt8.ofNat k) = false := by simpa using hol
          have HL : Hid (P.letB (UInt8.ofNat k) = false) := hol'
          have HN : Hid (onlyB (UInt8.ofNat k) = true) := by show _ = true; unfold onlyB; rw [hok, hol']; rfl
          clear hok hol hol'
          go_wp2_with fail
          refine (oneByte_any k _ hlt).mono ?_
          rintro e w1 ⟨rfl, b1⟩
          go_wp2_with fail
          refine (isName_two k _ true HO.out).mono ?_
          rintro e w2 ⟨rfl, b2⟩
          go_wp2_with fail
          refine (isName_one k _ false HL.out).mono ?_
          rintro e w3 ⟨rfl, b3⟩
          go_wp2
          go_roundw
          case rel => exact ⟨k + 1, by omega, by go_num, by rw [cf_yes _ _ HN.out], ((HB.out.trans (b1.mono HB.out.size)).trans (b2.mono (Nat.le_trans HB.out.size b1.size))).trans (b3.mono (Nat.le_trans HB.out.size (Nat.le_trans b1.size b2.size)))⟩
          case measure => simp [intOf]; omega
      · have hok' : restB (UInt8.ofNat k) = false := by simpa using hok
        have HO : Hid (restB (UInt8.ofNat k) = false) := hok'
        have HN : Hid (¬ onlyB (UInt8.ofNat k) = true) := by show ¬ _; unfold onlyB; rw [hok']; exact Bool.false_ne_true
        clear hok hok'
        go_wp2_with fail
        refine (oneByte_any k _ hlt).mono ?_
        rintro e w1 ⟨rfl, b1⟩
        go_wp2_with fail
        refine (isName_two k _ false HO.out).mono ?_
        rintro e w2 ⟨rfl, b2⟩
        go_wp2
        go_roundw
        case rel => exact ⟨k + 1, by omega, by go_num, by rw [cf_no _ _ HN.out], (HB.out.trans (b1.mono HB.out.size)).trans (b2.mono (Nat.le_trans HB.out.size b1.size))⟩
        case measure => simp [intOf]; omega
    · have hkk : k = 256 := by omega
      subst hkk
      go_wp2
      go_ret
      exact ⟨ret_int (by rw [only_10]; rfl), HB.out⟩
end Go.Proofs.Qxb6628672a
