/-
  Contracts of ZZnewStamp, Stamp.earlier, Stamp.Compare.
-/
import Derived.Test.Qxb6628712aRows
import Derived.WalkKit
import Derived.WalkSpells
import Derived.WalkLawsBesides
namespace Go.Proofs.Qxb6628712a
open Go.RowKit

/-- is (a, b) earlier than (c, d)? -/
def earl (a b c d : Int) : Bool := decide (a < c) || (decide (a = c) && decide (b < d))
/-- how (a, b) stands to (c, d) -/
def cmp (a b c d : Int) : Int := if earl a b c d = true then -1 else if earl c d a b = true then 1 else 0

theorem ret_bool {a b : Bool} (h : a = b) : Ending.returned (.bool a) = .returned (.bool b) := by rw [h]
theorem ret_int {k : IntKind} {a b : Int} (h : a = b) : Ending.returned (.int k a) = .returned (.int k b) := by rw [h]

theorem bcell {W w1 : World} (hb : Below W.heap.size W w1) : (∀ b o, b < W.heap.size → w1.cell? ⟨b, o, none⟩ = W.cell? ⟨b, o, none⟩) ∧ (∀ b o, b < W.heap.size → w1.frozen? ⟨b, o, none⟩ = W.frozen? ⟨b, o, none⟩) :=
  ⟨fun b o h => hb.cell (p := ⟨b, o, none⟩) h, fun b o h => hb.frozen (p := ⟨b, o, none⟩) h⟩

theorem new_any (a b : Int) (w : World) :
    Calls Try.prog 5 #[.int .i64 a, .int .i64 b] w fun e w' => e = .returned (.agg #[.int .i64 a, .int .i64 b]) ∧ Below w.heap.size w w' := by
  go_enter Try.func5, Try.ntmps5
  go_wp2
  exact bodyPost_ret (v := .agg #[.int .i64 a, .int .i64 b]) (by simp [results, Try.results5, go_sem]) rfl ⟨rfl, (Below.refl _ _).alloc (Nat.le_refl _) _⟩

set_option maxHeartbeats 400000 in
theorem earlier_any (a b c d : Int) (w : World) :
    Calls Try.prog 8 #[.agg #[.int .i64 a, .int .i64 b], .agg #[.int .i64 c, .int .i64 d]] w fun e w' => e = .returned (.bool (earl a b c d)) ∧ Below w.heap.size w w' := by
  by_cases h1 : a < c
  · have e1 : Hid (earl a b c d = true) := by show _ = true; simp [earl, h1]
    go_enter Try.func8, Try.ntmps8
    go_wp2
    go_ret
    exact ⟨ret_bool e1.out.symm, ((Below.refl _ _).alloc (Nat.le_refl _) _).alloc (by simp) _⟩
  · by_cases h2 : a = c
    · have e1 : Hid (earl a b c d = decide (b < d)) := by show _ = _; simp [earl, h2]
      have h2' : (a == c) = true := by simpa using h2
      clear h2
      go_enter Try.func8, Try.ntmps8
      go_wp2
      go_ret
      exact ⟨ret_bool e1.out.symm, ((Below.refl _ _).alloc (Nat.le_refl _) _).alloc (by simp) _⟩
    · have e1 : Hid (earl a b c d = false) := by show _ = _; simp [earl, h1, h2]
      have h2' : (a == c) = false := by simpa using h2
      go_enter Try.func8, Try.ntmps8
      go_wp2
      go_ret
      exact ⟨ret_bool e1.out.symm, ((Below.refl _ _).alloc (Nat.le_refl _) _).alloc (by simp) _⟩

theorem earlier_is (a b c d : Int) (v : Bool) (h : earl a b c d = v) (w : World) :
    Calls Try.prog 8 #[.agg #[.int .i64 a, .int .i64 b], .agg #[.int .i64 c, .int .i64 d]] w fun e w' => e = .returned (.bool v) ∧ Below w.heap.size w w' := by
  subst h
  exact earlier_any a b c d w

/-- what two boxes read behind a call that only makes memory -/
theorem boxes {w w1 : World} {a b c d : Int} (hb : Below ((w.alloc (.cells #[.int .i64 a, .int .i64 b] 23)).alloc (.cells #[.int .i64 c, .int .i64 d] 23)).heap.size ((w.alloc (.cells #[.int .i64 a, .int .i64 b] 23)).alloc (.cells #[.int .i64 c, .int .i64 d] 23)) w1) :
    w1.cell? ⟨w.heap.size, 0, none⟩ = some (.int .i64 a) ∧ w1.cell? ⟨w.heap.size, 1, none⟩ = some (.int .i64 b) ∧ w1.cell? ⟨w.heap.size + 1, 0, none⟩ = some (.int .i64 c) ∧ w1.cell? ⟨w.heap.size + 1, 1, none⟩ = some (.int .i64 d) ∧ w.heap.size + 1 < w1.heap.size ∧ Below w.heap.size w w1 := by
  have hz := hb.size
  simp at hz
  refine ⟨(hb.cell (p := ⟨w.heap.size, 0, none⟩) (by simp; omega)).trans (by simp), (hb.cell (p := ⟨w.heap.size, 1, none⟩) (by simp; omega)).trans (by simp), (hb.cell (p := ⟨w.heap.size + 1, 0, none⟩) (by simp)).trans (by simp [go_sem]), (hb.cell (p := ⟨w.heap.size + 1, 1, none⟩) (by simp)).trans (by simp [go_sem]), by omega, ?_⟩
  exact (((Below.refl _ _).alloc (Nat.le_refl _) _).alloc (by simp) _).trans (hb.mono (by simp; omega))

set_option maxHeartbeats 400000 in
theorem compare_any (a b c d : Int) (w : World) :
    Calls Try.prog 6 #[.agg #[.int .i64 a, .int .i64 b], .agg #[.int .i64 c, .int .i64 d]] w fun e w' => e = .returned (.int .i64 (cmp a b c d)) ∧ Below w.heap.size w w' := by
  by_cases h1 : earl a b c d = true
  · have H1 : Hid (earl a b c d = true) := h1
    have H2 : Hid (cmp a b c d = -1) := by show _ = _; unfold cmp; rw [if_pos h1]
    clear h1
    go_enter Try.func6, Try.ntmps6
    go_wp2_with fail
    refine (earlier_is a b c d true H1.out _).mono ?_
    rintro e w1 ⟨rfl, hb⟩
    obtain ⟨c1, c2, c3, c4, hz, hbw⟩ := boxes hb
    clear hb
    go_wp2
    go_ret
    exact ⟨ret_int H2.out.symm, hbw⟩
  · have H1 : Hid (earl a b c d = false) := by show _ = _; simpa using h1
    by_cases h2 : earl c d a b = true
    · have H3 : Hid (earl c d a b = true) := h2
      have H2 : Hid (cmp a b c d = 1) := by show _ = _; unfold cmp; rw [if_neg h1, if_pos h2]
      clear h1 h2
      go_enter Try.func6, Try.ntmps6
      go_wp2_with fail
      refine (earlier_is a b c d false H1.out _).mono ?_
      rintro e w1 ⟨rfl, hb⟩
      obtain ⟨c1, c2, c3, c4, hz, hbw⟩ := boxes hb
      clear hb
      go_wp2_with fail
      refine (earlier_is c d a b true H3.out _).mono ?_
      rintro e w2 ⟨rfl, hb⟩
      go_wp2
      go_ret
      exact ⟨ret_int H2.out.symm, hbw.trans (hb.mono hbw.size)⟩
    · have H3 : Hid (earl c d a b = false) := by show _ = _; simpa using h2
      have H2 : Hid (cmp a b c d = 0) := by show _ = _; unfold cmp; rw [if_neg h1, if_neg h2]
      clear h1 h2
      go_enter Try.func6, Try.ntmps6
      go_wp2_with fail
      refine (earlier_is a b c d false H1.out _).mono ?_
      rintro e w1 ⟨rfl, hb⟩
      obtain ⟨c1, c2, c3, c4, hz, hbw⟩ := boxes hb
      clear hb
      go_wp2_with fail
      refine (earlier_is c d a b false H3.out _).mono ?_
      rintro e w2 ⟨rfl, hb⟩
      go_wp2
      go_ret
      exact ⟨ret_int H2.out.symm, hbw.trans (hb.mono hbw.size)⟩

theorem compare_is (a b c d v : Int) (h : cmp a b c d = v) (w : World) :
    Calls Try.prog 6 #[.agg #[.int .i64 a, .int .i64 b], .agg #[.int .i64 c, .int .i64 d]] w fun e w' => e = .returned (.int .i64 v) ∧ Below w.heap.size w w' := by
  subst h
  exact compare_any a b c d w

/-- at block n of W lies the stamp (a, b) -/
def Pt (W : World) (n : Nat) (a b : Int) : Prop := W.cell? ⟨n, 0, none⟩ = some (.int .i64 a) ∧ W.cell? ⟨n, 1, none⟩ = some (.int .i64 b) ∧ n < W.heap.size

theorem Pt.keep {W W' : World} {n : Nat} {a b : Int} (h : Pt W n a b) (hb : Below W.heap.size W W') : Pt W' n a b :=
  ⟨(hb.cell (p := ⟨n, 0, none⟩) h.2.2).trans h.1, (hb.cell (p := ⟨n, 1, none⟩) h.2.2).trans h.2.1, Nat.lt_of_lt_of_le h.2.2 hb.size⟩

theorem Pt.new (W : World) (a b : Int) : Pt (W.alloc (.cells #[.int .i64 a, .int .i64 b] 23)) W.heap.size a b := ⟨by simp, by simp, by simp⟩

theorem Pt.old {W : World} {n : Nat} {a b : Int} (h : Pt W n a b) (o : Obj) : Pt (W.alloc o) n a b := h.keep ((Below.refl _ _).alloc (Nat.le_refl _) _)

theorem step {W W' W'' : World} (h : Below W.heap.size W W') (k : Below W'.heap.size W' W'') : Below W.heap.size W W'' := h.trans (k.mono h.size)
theorem stepA {W W' : World} (h : Below W.heap.size W W') (o : Obj) : Below W.heap.size W (W'.alloc o) := h.alloc h.size o

/-! ### plain -/
theorem cmp_lt {a b c d : Int} (h : a < c ∨ (a = c ∧ b < d)) : cmp a b c d = -1 := by
  have : earl a b c d = true := by simp [earl]; omega
  unfold cmp; rw [if_pos this]
theorem cmp_gt {a b c d : Int} (h : a < c ∨ (a = c ∧ b < d)) : cmp c d a b = 1 := by
  have h1 : earl a b c d = true := by simp [earl]; omega
  have h2 : ¬ earl c d a b = true := by simp [earl]; omega
  unfold cmp; rw [if_neg h2, if_pos h1]
theorem cmp_eq (a b : Int) : cmp a b a b = 0 := by
  have h2 : ¬ earl a b a b = true := by simp [earl]
  unfold cmp; rw [if_neg h2, if_neg h2]
end Go.Proofs.Qxb6628712a
