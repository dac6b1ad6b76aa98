/-
  The walk of equalBytesWasmB1 over two rows that hold the same.
-/
import Derived.Test.Qxb6628773aPut
import Derived.Deep.QuietTactic
import Derived.BigQuiet
namespace Go.Proofs.Qxb6628773a
open Go.RowKit

/-- nothing but draws has happened -/
def Quiet (w w' : World) : Prop := w'.heap = w.heap ∧ w'.os = w.os ∧ w'.tape = w.tape ∧ w'.output = w.output
theorem Quiet.refl (w : World) : Quiet w w := ⟨rfl, rfl, rfl, rfl⟩
theorem Quiet.row {w w' : World} (h : Quiet w w') {b n : Nat} {t : TypeId} {f : Nat → Value} (hr : w.rowIs b t n f) : w'.rowIs b t n f := hr.of_block (by rw [h.1])
theorem Quiet.below {w w' : World} (h : Quiet w w') (B : Nat) : Below B w w' := ⟨h.2.1, h.2.2.1, h.2.2.2, by rw [h.1]; exact Nat.le_refl _, fun _ _ => by rw [h.1]⟩

set_option maxHeartbeats 400000 in
theorem equal_yes (B1 B2 n : Nat) (g : Nat → Int) (w : World) (hl : n ≤ 65536) (h1 : w.rowIs B1 5 n (fun j => .int .u8 (g j))) (h2 : w.rowIs B2 5 n (fun j => .int .u8 (g j))) :
    Calls Try.prog 8 #[.slice (some ⟨B1, 0, none⟩) n n, .slice (some ⟨B2, 0, none⟩) n n] w fun e w' => e = .returned (.bool true) ∧ Quiet w w' := by
  have H1 : Hid _ := h1
  have H2 : Hid _ := h2
  clear h1 h2
  go_enter Try.func8, Try.ntmps8
  go_wp2
  go_loopw [5] (fun i wr => ∃ k : Nat, k ≤ n ∧ i = .int .i64 k ∧ Quiet w wr) (fun i _ => n - (intOf i).toNat)
  case atStart => exact ⟨0, Nat.zero_le _, rfl, Quiet.refl _⟩
  case round =>
    obtain ⟨k, hk, rfl, hq⟩ := hrel
    have HQ : Hid (Quiet w wr) := hq
    clear hq
    by_cases hlt : k < n
    · have c1 := (HQ.out.row H1.out).cell hlt
      have c2 := (HQ.out.row H2.out).cell hlt
      have hlt' : (k : Int) < (n : Int) := by omega
      have hk0 : (0 : Int) ≤ (k : Int) := by omega
      go_wp2
      go_quiet (fail)
      go_wp2
      go_roundw
      case rel => exact ⟨k + 1, by omega, by go_num, HQ.out⟩
      case measure => simp [intOf]; omega
    · go_wp2
      go_ret
      exact ⟨rfl, HQ.out⟩
end Go.Proofs.Qxb6628773a
