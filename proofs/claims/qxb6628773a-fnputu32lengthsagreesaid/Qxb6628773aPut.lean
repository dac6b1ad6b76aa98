/-
  The walks of cloneBytesWasmB1 and wasm.PutU32.
-/
import Derived.Test.Qxb6628773aRows
import Derived.WalkKit
import Derived.WalkSpells
import Derived.WalkLawsBesides
import Derived.Deep.OwnRows
import Derived.OpenShut
namespace Go.Proofs.Qxb6628773a
open Go.RowKit

theorem info5 : (Try.prog.info? 5).map (fun i => (i.zero, i.size, i.bytes)) = some (some (.int .u8 0), 1, 1) := by kernel_rfl

theorem ret_bool {a b : Bool} (h : a = b) : Ending.returned (.bool a) = .returned (.bool b) := by rw [h]

/-- a world in which block B alone has turned -/
structure Only (B : Nat) (w w' : World) : Prop where
  os : w'.os = w.os
  tape : w'.tape = w.tape
  output : w'.output = w.output
  size : w'.heap.size = w.heap.size
  block : ∀ k, k ≠ B → w'.heap[k]? = w.heap[k]?

theorem Only.refl (B : Nat) (w : World) : Only B w w := ⟨rfl, rfl, rfl, rfl, fun _ _ => rfl⟩
theorem Only.setCell {B : Nat} {w w' : World} (h : Only B w w') (i : Nat) (v : Value) : Only B w (w'.setCell ⟨B, i, none⟩ v) :=
  ⟨h.os, h.tape, h.output, by rw [← h.size]; simp [World.setCell], fun k hk => (Below.heap_setCell _ _ _ _ hk).trans (h.block k hk)⟩
theorem Only.below {B L : Nat} {w w' : World} (h : Only B w w') (hL : L ≤ B) : Below L w w' :=
  ⟨h.os, h.tape, h.output, Nat.le_of_eq h.size.symm, fun k hk => h.block k (by omega)⟩
theorem Only.row {B b n : Nat} {t : TypeId} {f : Nat → Value} {w w' : World} (h : Only B w w') (hr : w.rowIs b t n f) (hb : b ≠ B) : w'.rowIs b t n f := hr.of_block (h.block b hb)

set_option maxHeartbeats 400000 in
theorem clone_any (b off len cap : Nat) (zs : List Int) (w : World) (hp : 0 < len) (hl : len ≤ 65536) (hz : len ≤ zs.length) (hb : b < w.heap.size)
    (hc : ∀ j, j < zs.length → w.cell? ⟨b, off + j, none⟩ = some (.int .u8 (zs.getD j 0))) :
    Calls Try.prog 6 #[.slice (some ⟨b, off, none⟩) len cap] w fun e w' => e = .returned (.slice (some ⟨w.heap.size, 0, none⟩) len len) ∧ (∃ f, w'.rowIs w.heap.size 5 len f) ∧ Below w.heap.size w w' := by
  have hmk := run_make_row' (P := Try.prog) 22 5 (.int .u8 0) 1 Try.underlying22 info5 rfl .i64 .i64 len (by omega) (by omega)
  have hnil : ∀ W : World, (binOp .eql 22 (.slice (some ⟨b, off, none⟩) len cap) (.slice none 0 0)).run Try.prog W = .ok (.bool false) W := fun W => Lib.run_eql_slice_nil W 22 5 (some ⟨b, off, none⟩) len cap 0 0 Try.underlying22
  go_enter Try.func6, Try.ntmps6
  go_wp2
  go_loopw [4] (fun i wr => ∃ k : Nat, k ≤ len ∧ i = .int .i64 k ∧ (∃ f, wr.rowIs w.heap.size 5 len f) ∧ Below w.heap.size w wr) (fun i _ => len - (intOf i).toNat)
  case atStart => exact ⟨0, Nat.zero_le _, rfl, ⟨_, World.rowIs_made _ _ _ _⟩, (Below.refl _ _).alloc (Nat.le_refl _) _⟩
  case round =>
    obtain ⟨k, hk, rfl, ⟨f, hrow⟩, hbel⟩ := hrel
    by_cases hlt : k < len
    · have c1 := hrow.cell hlt
      have c2 := hrow.frozen k
      have c3 := (hbel.cell (p := ⟨b, off + k, none⟩) hb).trans (hc k (by omega))
      have HR : Hid (wr.rowIs w.heap.size 5 len f) := hrow
      clear hrow hc hmk hnil
      go_wp2
      go_roundw
      case rel => exact ⟨k + 1, by omega, by go_num, ⟨_, HR.out.set _ _⟩, hbel.setCell (Nat.le_refl _) _⟩
      case measure => simp [intOf]; omega
    · have hkk : k = len := by omega
      subst hkk
      go_wp2
      go_ret
      exact ⟨rfl, ⟨f, hrow⟩, hbel⟩

/-- what PutU32 lays at place j of n -/
def enc (V n j : Nat) : Int := if j < n - 1 then ((V / 128 ^ j % 128 + 128 : Nat) : Int) else ((V / 128 ^ (n - 1) % 256 : Nat) : Int)

theorem or128_all : ∀ c : Fin 256, bits .or .u8 ((c.val : Nat) : Int) 128 = ((c.val % 128 + 128 : Nat) : Int) := by decide +kernel

theorem or128 (x : Nat) : bits .or .u8 ((x : Int) % 256) 128 = ((x % 128 + 128 : Nat) : Int) := by
  have h := or128_all ⟨x % 256, Nat.mod_lt _ (by omega)⟩
  have e : ((x : Int) % 256) = ((x % 256 : Nat) : Int) := by omega
  rw [e]
  refine h.trans ?_
  show ((x % 256 % 128 + 128 : Nat) : Int) = _
  omega

theorem put_step {V m k x B : Nat} {f : Nat → Value} {wr : World} (hx : x = V / 128 ^ k) (hk : k < m) (hr : wr.rowIs B 5 (m + 1) f) (hf : ∀ j, j < k → f j = .int .u8 (enc V (m + 1) j)) :
    ∃ g, (wr.setCell ⟨B, k, none⟩ (.int .u8 (bits .or .u8 ((x : Int) % 256) 128))).rowIs B 5 (m + 1) g ∧ ∀ j, j < k + 1 → g j = .int .u8 (enc V (m + 1) j) := by
  refine ⟨_, hr.set k _, fun j hj => ?_⟩
  by_cases e : j = k
  · subst e
    show (if j = j then _ else f j) = _
    rw [if_pos rfl, or128]
    unfold enc
    rw [if_pos (by omega), hx]
  · show (if j = k then _ else f j) = _
    rw [if_neg e]
    exact hf j (by omega)

theorem put_last {V k x B : Nat} {f : Nat → Value} {wr : World} (hx : x = V / 128 ^ k) (hr : wr.rowIs B 5 (k + 1) f) (hf : ∀ j, j < k → f j = .int .u8 (enc V (k + 1) j)) :
    (wr.setCell ⟨B, k, none⟩ (.int .u8 ((x : Int) % 256))).rowIs B 5 (k + 1) (fun j => .int .u8 (enc V (k + 1) j)) := by
  refine (hr.set k _).congr fun j hj => ?_
  by_cases e : j = k
  · subst e
    show (if j = j then _ else f j) = _
    rw [if_pos rfl]
    unfold enc
    rw [if_neg (by omega), hx]
    rfl
  · show (if j = k then _ else f j) = _
    rw [if_neg e]
    exact hf j (by omega)

theorem next_div (V k : Nat) : V / 128 ^ k / 128 = V / 128 ^ (k + 1) := by
  rw [Nat.div_div_eq_div_mul, Nat.pow_succ]

set_option maxHeartbeats 400000 in
theorem put_any (B n V : Nat) (f : Nat → Value) (w : World) (hp : 0 < n) (hl : n ≤ 65536) (hV : V < 4294967296) (hr : w.rowIs B 5 n f) :
    Calls Try.prog 7 #[.slice (some ⟨B, 0, none⟩) n n, .int .u32 V] w fun e w' => e = .returned (.tuple #[]) ∧ w'.rowIs B 5 n (fun j => .int .u8 (enc V n j)) ∧ Only B w w' := by
  have HR0 : Hid (w.rowIs B 5 n f) := hr
  clear hr
  obtain ⟨m, rfl⟩ : ∃ m, n = m + 1 := ⟨n - 1, by omega⟩
  go_enter Try.func7, Try.ntmps7
  go_wp2
  go_loopw [1, 10] (fun v i wr => ∃ k x : Nat, k ≤ m ∧ i = .int .i64 k ∧ v = .int .u32 x ∧ x = V / 128 ^ k ∧ (∃ f, wr.rowIs B 5 (m + 1) f ∧ ∀ j, j < k → f j = .int .u8 (enc V (m + 1) j)) ∧ Only B w wr) (fun _ i _ => m - (intOf i).toNat)
  case atStart => exact ⟨0, V, Nat.zero_le _, rfl, rfl, by simp, ⟨f, HR0.out, fun j hj => absurd hj (Nat.not_lt_zero _)⟩, Only.refl _ _⟩
  case round =>
    obtain ⟨k, x, hk, rfl, rfl, hx, ⟨f, hrow, hfj⟩, hon⟩ := hrel
    have hx1 : x < 4294967296 := by rw [hx]; exact Nat.lt_of_le_of_lt (Nat.div_le_self _ _) hV
    have HX : Hid (x = V / 128 ^ k) := hx
    have HF : Hid (∀ j, j < k → f j = .int .u8 (enc V (m + 1) j)) := hfj
    have HR : Hid (wr.rowIs B 5 (m + 1) f) := hrow
    have HO : Hid (Only B w wr) := hon
    clear hx hfj hon HR0
    by_cases hlt : k < m
    · have c1 := hrow.cell (show k < m + 1 by omega)
      have c2 := hrow.frozen k
      clear hrow
      go_wp2
      go_roundw
      case rel => exact ⟨k + 1, x / 128, by omega, by go_num, by go_num, by rw [HX.out]; exact next_div V k, put_step HX.out hlt HR.out HF.out, HO.out.setCell _ _⟩
      case measure => simp [intOf]; omega
    · have hkk : k = m := by omega
      subst hkk
      have c1 := hrow.cell (show k < k + 1 by omega)
      have c2 := hrow.frozen k
      clear hrow
      go_wp2
      go_end0
      exact ⟨rfl, put_last HX.out HR.out HF.out, HO.out.setCell _ _⟩
end Go.Proofs.Qxb6628773a
