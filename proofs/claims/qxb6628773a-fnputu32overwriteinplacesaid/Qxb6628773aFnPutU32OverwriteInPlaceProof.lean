/-
  A proof of 'Rows.FnPutU32OverwriteInPlaceSaid'. The frame is the guide's own shell at this function's number and types; the walk is ours.
-/
import Derived.Test.Qxb6628773aRows
import Derived.WalkKit
import Derived.ProofKit
import Derived.OpenShut
import Derived.ShutString
import Derived.ChangeOld
import Derived.Below
import Derived.Test.Qxb6628773aLeb
namespace Go.Proofs.Qxb6628773a.fnPutU32OverwriteInPlace
open Go.ChangeShapes Go.WideShapes Go.ChangeAt Go.RowKit
open Go.ChangeMaps (open_string shut_string)
set_option linter.unusedVariables false

theorem own : ownKnob Try.prog.godebug = none := by kernel_rfl
theorem laidOut : laidOutB Try.prog = true := by kernel_rfl

/-- WHAT THE WALK IS TOLD OF A SLICE OF INTEGERS THAT CAME IN: it is nil; or it leads to a row of 'cap' cells, the numbers 'zs' (the first 'len' are its elements, the rest its spare room), each fitting its kind. -/
def IsRow (k : IntKind) (w : World) (a : Option Addr) (len cap : Nat) (zs : List Int) : Prop :=
  (a = none ∧ len = 0 ∧ cap = 0 ∧ zs = []) ∨
  ∃ x, a = some x ∧ len ≤ cap ∧ cap ≤ maxLen ∧ zs.length = cap ∧ (∀ i, i < zs.length → w.cell? (x.add i) = some (.int k (zs.getD i 0))) ∧ ∀ n ∈ zs, (Lit.int k n).wf = true

/-! ### STEP 1: THE WALK: the Go text returns true, and writes nothing that was there. -/
theorem len_yes (x : Option Addr) (l c : Nat) (v u : Int) (w : World) (h : (l : Int) ≤ 1048576) :
    Calls Try.prog 5 #[.slice x l c, .int .u32 v, .int .u32 u] w fun e w' => e = .returned (.bool true) ∧ w = w' := by
  have h' : ¬ 1048576 < (l : Int) := by omega
  go_enter Try.func5, Try.ntmps5
  go_wp2
  go_ret
  exact ⟨rfl, rfl⟩

theorem len_no (x : Option Addr) (l c : Nat) (v u : Int) (w : World) (h : 1048576 < (l : Int)) :
    Calls Try.prog 5 #[.slice x l c, .int .u32 v, .int .u32 u] w fun e w' => e = .returned (.bool false) ∧ w = w' := by
  go_enter Try.func5, Try.ntmps5
  go_wp2
  go_ret
  exact ⟨rfl, rfl⟩

theorem leb_any (B n V : Nat) (w : World) (hp : 0 < n) (hl : n ≤ 65536) (hV : V < 4294967296) (h1 : w.rowIs B 5 n (fun j => .int .u8 (enc V n j))) :
    Calls Try.prog 9 #[.slice (some ⟨B, 0, none⟩) n n, .int .u32 V] w fun e w' => e = .returned (.bool true) ∧ w = w' := by
  obtain ⟨m, rfl⟩ : ∃ m, n = m + 1 := ⟨n - 1, by omega⟩
  exact leb_yes B m V w hl hV h1

set_option maxHeartbeats 400000 in
theorem bodyWalk (b off n cap : Nat) (zs : List Int) (V U : Nat) (w : World) (hp : 0 < n) (hl : n ≤ 65536) (hz : n ≤ zs.length) (hb : b < w.heap.size) (hV : V < 4294967296) (hU : U < 4294967296)
    (hc : ∀ j, j < zs.length → w.cell? ⟨b, off + j, none⟩ = some (.int .u8 (zs.getD j 0))) :
    Calls Try.prog 3 #[.slice (some ⟨b, off, none⟩) n cap, .int .u32 V, .int .u32 U] w fun e w' => e = .returned (.bool true) ∧ Below w.heap.size w w' := by
  have HC : Hid (∀ j, j < zs.length → w.cell? ⟨b, off + j, none⟩ = some (.int .u8 (zs.getD j 0))) := hc
  clear hc
  have hl1 : ¬ 65536 < (n : Int) := by omega
  have hl2 : ((n : Int) == 0) = false := by rw [beq_eq_false_iff_ne]; omega
  have hl3 : (n : Int) ≤ 65536 := by omega
  have HL : Hid (n ≤ 65536) := hl
  have HV : Hid (V < 4294967296) := hV
  have HU : Hid (U < 4294967296) := hU
  clear hl hV hU
  go_enter Try.func3, Try.ntmps3
  go_wp2_with fail
  refine (len_yes _ _ _ _ _ _ (by omega)).mono ?_
  rintro e w' ⟨rfl, rfl⟩
  go_wp2_with fail
  refine (clone_any b off n cap zs _ (by omega) HL.out hz hb HC.out).mono ?_
  rintro e W1 ⟨rfl, ⟨f, r1⟩, b1⟩
  have R1 : Hid (W1.rowIs w.heap.size 5 n f) := r1
  have B1 : Hid (Below w.heap.size w W1) := b1
  clear r1 b1
  go_wp2_with fail
  refine (put_any w.heap.size n V f _ (by omega) HL.out HV.out R1.out).mono ?_
  rintro e W2 ⟨rfl, r2, o2⟩
  have R2 : Hid (W2.rowIs w.heap.size 5 n (fun j => .int .u8 (enc V n j))) := r2
  have B2 : Hid (Below w.heap.size w W2) := B1.out.trans (o2.below (Nat.le_refl _))
  clear r2 o2 R1 B1
  go_wp2_with fail
  refine (put_any w.heap.size n U _ _ (by omega) HL.out HU.out R2.out).mono ?_
  rintro e W3 ⟨rfl, r3, o3⟩
  have R3 : Hid (W3.rowIs w.heap.size 5 n (fun j => .int .u8 (enc U n j))) := r3
  have B3 : Hid (Below w.heap.size w W3) := B2.out.trans (o3.below (Nat.le_refl _))
  clear r3 o3 R2 B2
  go_wp2_with fail
  refine (clone_any b off n cap zs _ (by omega) HL.out hz (Nat.lt_of_lt_of_le hb B3.out.size) (fun j hj => (B3.out.cell (p := ⟨b, off + j, none⟩) hb).trans (HC.out j hj))).mono ?_
  rintro e W4 ⟨rfl, ⟨g, r4⟩, b4⟩
  have R4 : Hid (W4.rowIs W3.heap.size 5 n g) := r4
  have L4 : Hid (w.heap.size < W3.heap.size) := R3.out.lt
  have R4' : Hid (W4.rowIs w.heap.size 5 n (fun j => .int .u8 (enc U n j))) := R3.out.of_block (b4.block _ L4.out)
  have B4 : Hid (Below w.heap.size w W4) := B3.out.trans (b4.mono (Nat.le_of_lt L4.out))
  clear r4 b4 R3 B3
  go_wp2_with fail
  refine (put_any W3.heap.size n U g _ (by omega) HL.out HU.out R4.out).mono ?_
  rintro e W5 ⟨rfl, r5, o5⟩
  have R5 : Hid (W5.rowIs W3.heap.size 5 n (fun j => .int .u8 (enc U n j))) := r5
  have R5' : Hid (W5.rowIs w.heap.size 5 n (fun j => .int .u8 (enc U n j))) := o5.row R4'.out (Nat.ne_of_lt L4.out)
  have B5 : Hid (Below w.heap.size w W5) := B4.out.trans (o5.below (Nat.le_of_lt L4.out))
  clear r5 o5 R4 R4' B4
  go_wp2_with fail
  refine (equal_yes w.heap.size W3.heap.size n (fun j => enc U n j) _ HL.out R5'.out R5.out).mono ?_
  rintro e W6 ⟨rfl, q6⟩
  have R6 : Hid (W6.rowIs W3.heap.size 5 n (fun j => .int .u8 (enc U n j))) := q6.row R5.out
  have B6 : Hid (Below w.heap.size w W6) := B5.out.trans (q6.below _)
  clear q6 R5 R5' B5
  go_wp2_with fail
  refine (leb_any W3.heap.size n U _ hp HL.out HU.out R6.out).mono ?_
  rintro e W7 ⟨rfl, rfl⟩
  go_wp2
  go_ret
  exact ⟨rfl, B6.out⟩

set_option maxHeartbeats 400000 in
theorem walk (a0 : Option Addr) (len0 cap0 : Nat) (z0 : List Int) (a1 : Int) (a2 : Int) (w : World) (w0 : IsRow .u8 w a0 len0 cap0 z0) (w1 : (Lit.int .u32 a1).wf = true) (w2 : (Lit.int .u32 a2).wf = true) :
    Calls Try.prog 3 #[.slice a0 len0 cap0, .int .u32 a1, .int .u32 a2] w fun e w' => e = .returned (.bool true) ∧ Below w.heap.size w w' := by
  by_cases g0 : 1048576 < (len0 : Int)
  · go_enter Try.func3, Try.ntmps3
    go_wp2_with (go_at_call 5; refine (len_no _ _ _ _ _ _ g0).mono ?_; rintro e w' ⟨rfl, rfl⟩)
    go_ret
    exact ⟨rfl, Below.refl _ _⟩
  by_cases g1 : 65536 < (len0 : Int)
  · go_enter Try.func3, Try.ntmps3
    go_wp2_with (go_at_call 5; refine (len_yes _ _ _ _ _ _ (by omega)).mono ?_; rintro e w' ⟨rfl, rfl⟩)
    go_ret
    exact ⟨rfl, Below.refl _ _⟩
  by_cases g2 : len0 = 0
  · have g2' : ((len0 : Int) == 0) = true := by rw [beq_iff_eq]; omega
    clear g2
    go_enter Try.func3, Try.ntmps3
    go_wp2_with (go_at_call 5; refine (len_yes _ _ _ _ _ _ (by omega)).mono ?_; rintro e w' ⟨rfl, rfl⟩)
    go_ret
    exact ⟨rfl, Below.refl _ _⟩
  rcases w0 with ⟨_, h0, _, _⟩ | ⟨x, rfl, h1, h2, h3, h4, h5⟩
  · omega
  obtain ⟨b, off, rfl, hc⟩ := ints_at h4 (by omega)
  have bv := bounds_u32 w1
  have bu := bounds_u32 w2
  obtain ⟨V, rfl⟩ : ∃ V : Nat, a1 = V := ⟨a1.toNat, by omega⟩
  obtain ⟨U, rfl⟩ : ∃ U : Nat, a2 = U := ⟨a2.toNat, by omega⟩
  have hb : b < w.heap.size := by
    have h0 := hc 0 (by omega)
    rcases Nat.lt_or_ge b w.heap.size with h | h
    · exact h
    · simp [World.cell?, Array.getElem?_eq_none h] at h0
  exact bodyWalk b off len0 cap0 z0 V U w (by omega) (by omega) (by omega) hb (by omega) (by omega) hc

/-! ### THE ROW's STEP: WRITTEN OUT: LEAVE IT -/
set_option maxRecDepth 100000 in
theorem lifted (os : Os) (started : os.Started) (H : Type) (enc : TypeId × Value → H) :
    ReturnsInHanded {} Try.checked os 3 .any (Rows.fnPutU32OverwriteInPlaceSpec.pre6 enc Try.prog Try.f3 Rows.fnPutU32OverwriteInPlaceRow.domain false) (Rows.fnPutU32OverwriteInPlaceSpec.post enc Try.prog Try.f3 false true false false) := by
  refine returnsInHanded_of_change (C := Try.checked) own started (by kernel_rfl) Try.func3
    (ChangeSpec.witness6 (enc := enc) (C := Try.checked) false ⟨#[], #[.slice none 0 0, .int .u32 0, .int .u32 0], []⟩ 8 (by kernel_rfl) (by kernel_rfl) (by kernel_rfl) (by kernel_rfl)) ?_
  intro W base args ds gs before hval0 hW hcnd _
  have hval : ∀ (j : Nat) t v, Try.f3.params[j]? = some t → args[j]? = some v → Value.okWide Try.prog W .any base t v := hval0
  have hW' := hW
  obtain ⟨p, q, hA0, hV, rfl, hfz, hnd⟩ := hW
  have hA : DataW.TrodAll enc Try.prog W 0 (fun _ => true) true Try.f3.params.toList args.toList ds p := hA0
  rw [Try.params3] at hA hval
  obtain ⟨v0, vs0, d0, ds0, p0, q0, hargs, rfl, rfl, h0, r0⟩ := trodAll_cons hA
  obtain ⟨v1, vs1, d1, ds1, p1, q1, rfl, rfl, rfl, h1, r1⟩ := trodAll_cons r0
  obtain ⟨v2, vs2, d2, ds2, p2, q2, rfl, rfl, rfl, h2, r2⟩ := trodAll_cons r1
  obtain ⟨rfl, rfl, rfl⟩ := trodAll_nil r2
  obtain rfl : args = #[v0, v1, v2] := by cases args; simp_all
  obtain ⟨rfl, rfl⟩ := trodVars_none hV
  obtain ⟨a0, len0, cap0, rfl⟩ := okWide_slice Try.underlying22 (hval 0 22 v0 rfl rfl)
  have k0 := h0
  have lt0 : ∀ x ∈ p0, x.block < W.heap.size := by obtain ⟨m, hm⟩ := k0; exact DataW.trod_lt m _ _ _ hm
  obtain ⟨z0, w0⟩ : ∃ zs, IsRow .u8 W a0 len0 cap0 zs := by
    obtain ⟨fuel, hf⟩ := h0
    rcases open_ints Try.underlying22 Try.underlying5 (by kernel_rfl) hf with ⟨hcs, _⟩ | ⟨x, l, c, zs, hcs, _, hl, hm, hz, _, hcell, hwz⟩
    · simp [Value.cells] at hcs
      obtain ⟨rfl, rfl, rfl⟩ := hcs
      exact ⟨[], .inl ⟨rfl, rfl, rfl, rfl⟩⟩
    · simp [Value.cells] at hcs
      obtain ⟨rfl, rfl, rfl⟩ := hcs
      exact ⟨zs, .inr ⟨_, rfl, hl, hm, by simpa using hz, hcell, hwz⟩⟩
  obtain ⟨a1, rfl, rfl, rfl, w1⟩ := open_int Try.underlying23 (hval 1 23 v1 rfl rfl) h1
  obtain ⟨a2, rfl, rfl, rfl, w2⟩ := open_int Try.underlying23 (hval 2 23 v2 rfl rfl) h2
  clear hA0 hval0
  refine (walk a0 len0 cap0 z0 a1 a2 W w0 w1 w2).mono fun e W' ⟨he, bel⟩ => ?_
  subst he
  exact ⟨_, rfl, _, _, _, [], _, [], hW', trodAll_mk1 (shut_bool Try.underlying4 _), (trodAll_cons_mk (Below.trod laidOut (by kernel_rfl) (of_decide_eq_true (by kernel_rfl)) k0 bel lt0) (trodAll_cons_mk (shut_int Try.underlying23 w1) (trodAll_cons_mk (shut_int Try.underlying23 w2) trodAll_mk0))), rfl, bel.frame _, fun h => by cases h⟩

theorem over : Rows.fnPutU32OverwriteInPlaceRow.holds Try.pinned (OpenSpec.ofChange Rows.fnPutU32OverwriteInPlaceSpec) :=
  OpenClaim.holds_of_wide 3 Try.f3 rfl rfl rfl rfl rfl rfl rfl ⟨rfl, rfl, rfl, rfl, rfl⟩ rfl rfl rfl rfl rfl (by kernel_rfl) Try.func3 (by kernel_rfl)
    (of_decide_eq_true (by kernel_rfl)) (by unfold Func.isWrapper; first | (rw [if_pos (by decide +kernel)]; kernel_rfl) | (rw [if_neg (by decide +kernel)]; exact ⟨rfl, rfl⟩))
    (fun os started H enc _ => lifted os started H enc)

/-- ████ THE STATEMENT ████ -/
theorem proved : Rows.FnPutU32OverwriteInPlaceSaid := over
end Go.Proofs.Qxb6628773a.fnPutU32OverwriteInPlace
