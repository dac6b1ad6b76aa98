/-
  The walk of zzRepairB1.
-/
import Derived.Test.Qxb6628672aIsName
import Derived.Deep.OwnRows
import Derived.Laws.IdiomStrings
namespace Go.Proofs.Qxb6628672a
open Go.RowKit

theorem info5 : (Try.prog.info? 5).map (fun i => (i.zero, i.size, i.bytes)) = some (some (.int .u8 0), 1, 1) := by kernel_rfl

/-- the byte at place j behind the repair -/
def repAt (s : ByteArray) (j : Nat) : UInt8 := if P.okAt j (s.data.toList.getD j 0) = true then s.data.toList.getD j 0 else 95
/-- how many of the first k are turned -/
def cnt (s : ByteArray) : Nat → Nat
  | 0 => 0
  | k + 1 => cnt s k + if P.okAt k (s.data.toList.getD k 0) = true then 0 else 1

/-- what the row holds behind k rounds -/
def cellsAt (s : ByteArray) (k j : Nat) : Value := .int .u8 (if j < k then (repAt s j).toNat else 0 : Nat)

theorem cnt_le (s : ByteArray) : ∀ k, cnt s k ≤ k
  | 0 => Nat.le_refl _
  | k + 1 => by have := cnt_le s k; simp only [cnt]; split <;> omega

theorem nm_at0 (s : ByteArray) (h : 0 < s.size) : P.nm (s.extract 0 1).data.toList = P.okAt 0 (s.data.toList.getD 0 0) := by
  have hl : s.data.toList.length = s.size := by simp
  have e : (s.extract 0 1).data.toList = [s.data.toList.getD 0 0] := by
    rw [ByteArray.data_extract, Array.toList_extract]
    cases hd : s.data.toList with
    | nil => rw [hd] at hl; simp at hl; omega
    | cons c l => simp [List.extract]
  rw [e, P.nm_cons]
  simp [P.okAt]

theorem nm_at (s : ByteArray) (k : Nat) (h : k < s.size) (h0 : k ≠ 0) : P.nm ((⟨#[95]⟩ : ByteArray) ++ s.extract k (k + 1)).data.toList = P.okAt k (s.data.toList.getD k 0) := by
  have hl : s.data.toList.length = s.size := by simp
  have e : ((⟨#[95]⟩ : ByteArray) ++ s.extract k (k + 1)).data.toList = [95, s.data.toList.getD k 0] := by
    rw [ByteArray.data_append, Array.toList_append, ByteArray.data_extract, Array.toList_extract]
    rw [List.extract_eq_take_drop, Nat.add_sub_cancel_left, List.take_one]
    rw [List.head?_drop, List.getElem?_eq_getElem (by omega)]
    simp [List.getD, List.getElem?_eq_getElem (show k < s.data.toList.length by omega)]
  rw [e, P.nm_cons]
  have : P.letB 95 = true := by decide
  simp [P.okAt, this, h0]

theorem isName_at0 (s : ByteArray) (w : World) (v : Bool) (hs : s.size ≤ 1048576) (h : 0 < s.size) (hv : P.okAt 0 (s.data.toList.getD 0 0) = v) :
    Calls Try.prog 6 #[.string (s.extract 0 1)] w fun e w' => e = .returned (.bool v) ∧ Below w.heap.size w w' := by
  have := isName_any (s.extract 0 1) w (by unfold maxLen; simp; omega)
  rw [nm_at0 s h, hv] at this
  exact this

theorem isName_at (s : ByteArray) (k : Nat) (w : World) (v : Bool) (hs : s.size ≤ 1048576) (h : k < s.size) (h0 : k ≠ 0) (hv : P.okAt k (s.data.toList.getD k 0) = v) :
    Calls Try.prog 6 #[.string ({ data := #[95] } ++ s.extract k (k + 1))] w fun e w' => e = .returned (.bool v) ∧ Below w.heap.size w w' := by
  have := isName_any ((⟨#[95]⟩ : ByteArray) ++ s.extract k (k + 1)) w (by
    have : ((⟨#[95]⟩ : ByteArray) ++ s.extract k (k + 1)).size ≤ 1 + (k + 1) := by
      rw [ByteArray.size_append, ByteArray.size_extract]
      show 1 + _ ≤ _
      omega
    unfold maxLen; omega)
  rw [nm_at s k h h0, hv] at this
  exact this

theorem rel_step {s : ByteArray} {k B : Nat} {w wr wx : World} (hbel : Below B w wr) (hb : Below wr.heap.size wr wx) (hr : wr.rowIs B 5 s.size (cellsAt s k)) (v : Int) (hv : v = ((repAt s k).toNat : Int)) :
    (wx.setCell ⟨B, k, none⟩ (.int .u8 v)).rowIs B 5 s.size (cellsAt s (k + 1)) ∧ Below B w (wx.setCell ⟨B, k, none⟩ (.int .u8 v)) := by
  have h1 : wx.rowIs B 5 s.size (cellsAt s k) := hr.of_block (hb.block _ hr.lt)
  refine ⟨(h1.set k (.int .u8 v)).congr fun j _ => ?_, (hbel.trans (hb.mono (by have := hr.lt; omega))).setCell (Nat.le_refl _) _⟩
  unfold cellsAt
  by_cases e : j = k
  · subst e
    simp [hv]
  · by_cases e2 : j < k
    · rw [if_neg e, if_pos e2, if_pos (by omega)]
    · rw [if_neg e, if_neg e2, if_neg (by omega)]

theorem rep_ok (s : ByteArray) (k : Nat) (h : k < s.size) (ho : P.okAt k (s.data.toList.getD k 0) = true) : ((s[k].toNat : Nat) : Int) = ((repAt s k).toNat : Int) := by
  have hl : k < s.data.toList.length := by simpa using h
  unfold repAt
  rw [if_pos ho]
  simp [List.getD, List.getElem?_eq_getElem hl]
  rfl

theorem rep_no (s : ByteArray) (k : Nat) (ho : ¬ P.okAt k (s.data.toList.getD k 0) = true) : (95 : Int) = ((repAt s k).toNat : Int) := by
  unfold repAt
  rw [if_neg ho]
  rfl

/-- the repaired text (of a text that is not empty) -/
def fin (s : ByteArray) : ByteArray := ⟨((List.range s.size).map (repAt s)).toArray⟩

theorem back_conv {s : ByteArray} {B : Nat} {wr : World} (hr : wr.rowIs B 5 s.size (cellsAt s s.size)) :
    (convert 27 9 (.slice (some ⟨B, 0, none⟩) s.size s.size)).run Try.prog wr = .ok (.string (fin s)) wr := by
  have h := run_convert_bytes_back (P := Try.prog) wr 27 9 5 ⟨B, 0, none⟩ s.size ((List.range s.size).map (repAt s)) Try.underlying27 Try.underlying5 Try.underlying9 (by
    intro j hj
    have hj' : j < s.size := by simpa using hj
    have := hr.cell hj'
    have ha : (⟨B, 0, none⟩ : Addr).add j = ⟨B, j, none⟩ := by
      simp only [Addr.add, Nat.zero_add]
      split
      · rename_i e; rw [e]
      · rfl
    rw [ha, this]
    simp [cellsAt, hj'])
  simpa [fin] using h

set_option maxHeartbeats 400000 in
theorem repair_some (s : ByteArray) (w : World) (hs : s.size ≤ 1048576) (hp : 0 < s.size) :
    Calls Try.prog 11 #[.string s] w fun e w' => e = .returned (.tuple #[.string (fin s), .int .i64 (cnt s s.size)]) ∧ Below w.heap.size w w' := by
  have hmk := run_make_row' (P := Try.prog) 27 5 (.int .u8 0) 1 Try.underlying27 info5 rfl .i64 .i64 s.size (by omega) (by omega)
  have hz : ((s.size : Int) == 0) = false := by rw [beq_eq_false_iff_ne]; omega
  go_enter Try.func11, Try.ntmps11
  go_wp2_with fail
  go_loopw [5, 6] (fun ch i wr => ∃ k : Nat, k ≤ s.size ∧ i = .int .i64 k ∧ ch = .int .i64 (cnt s k) ∧ wr.rowIs w.heap.size 5 s.size (cellsAt s k) ∧ Below w.heap.size w wr) (fun _ i _ => s.size - (intOf i).toNat)
  case atStart => exact ⟨0, Nat.zero_le _, rfl, rfl, World.rowIs_made _ _ _ _, (Below.refl _ _).alloc (Nat.le_refl _) _⟩
  case round =>
    obtain ⟨k, hk, rfl, rfl, hrow, hbel⟩ := hrel
    have hcl := cnt_le s k
    have hrlt := hrow.lt
    by_cases hlt : k < s.size
    · have hc := hrow.cell hlt
      have hfz := hrow.frozen k
      have HR : Hid (wr.rowIs w.heap.size 5 s.size (cellsAt s k)) := hrow
      clear hrow
      have HN : Hid (((cnt s (k + 1) : Nat) : Int) = (cnt s k : Int) + if P.okAt k (s.data.toList.getD k 0) = true then 0 else 1) := by
        show ((cnt s k + _ : Nat) : Int) = _
        split <;> simp
      by_cases h0 : k = 0
      · have h0' : ((k : Int) == 0) = true := by rw [beq_iff_eq]; omega
        subst h0
        by_cases hok : P.okAt 0 (s.data.toList.getD 0 0) = true
        · skip
          have HO : Hid (P.okAt 0 (s.data.toList.getD 0 0) = true) := hok
          clear hok
          go_wp2_with fail
          refine (isName_at0 s wr true hs hp HO.out).mono ?_
          rintro e wx ⟨rfl, hb⟩
          have hcx := (hb.cell (p := ⟨w.heap.size, 0, none⟩) hrlt).trans hc
          have hfx := (hb.frozen (p := ⟨w.heap.size, 0, none⟩) hrlt).trans hfz
          clear hc hfz
          go_wp2
          go_roundw
          case rel =>
            have hst := rel_step hbel hb HR.out _ (rep_ok s 0 hlt HO.out)
            exact ⟨0 + 1, by omega, by go_num, by rw [HN.out, if_pos HO.out]; go_num, hst.1, hst.2⟩
          case measure => simp [intOf]; omega
        · skip
          have HO : Hid (¬ P.okAt 0 (s.data.toList.getD 0 0) = true) := hok
          clear hok
          go_wp2_with fail
          refine (isName_at0 s wr false hs hp (by simpa using HO.out)).mono ?_
          rintro e wx ⟨rfl, hb⟩
          have hcx := (hb.cell (p := ⟨w.heap.size, 0, none⟩) hrlt).trans hc
          have hfx := (hb.frozen (p := ⟨w.heap.size, 0, none⟩) hrlt).trans hfz
          clear hc hfz
          go_wp2
          go_roundw
          case rel =>
            have hst := rel_step hbel hb HR.out _ (rep_no s 0 HO.out)
            exact ⟨0 + 1, by omega, by go_num, by rw [HN.out, if_neg HO.out], hst.1, hst.2⟩
          case measure => simp [intOf]; omega
      · have h0' : ((k : Int) == 0) = false := by rw [beq_eq_false_iff_ne]; omega
        have H0 : Hid (k ≠ 0) := h0
        clear h0
        by_cases hok : P.okAt k (s.data.toList.getD k 0) = true
        · skip
          have HO : Hid (P.okAt k (s.data.toList.getD k 0) = true) := hok
          clear hok
          go_wp2_with fail
          refine (isName_at s k wr true hs hlt H0.out HO.out).mono ?_
          rintro e wx ⟨rfl, hb⟩
          have hcx := (hb.cell (p := ⟨w.heap.size, k, none⟩) hrlt).trans hc
          have hfx := (hb.frozen (p := ⟨w.heap.size, k, none⟩) hrlt).trans hfz
          clear hc hfz
          go_wp2
          go_roundw
          case rel =>
            have hst := rel_step hbel hb HR.out _ (rep_ok s k hlt HO.out)
            exact ⟨k + 1, by omega, by go_num, by rw [HN.out, if_pos HO.out]; go_num, hst.1, hst.2⟩
          case measure => simp [intOf]; omega
        · skip
          have HO : Hid (¬ P.okAt k (s.data.toList.getD k 0) = true) := hok
          clear hok
          go_wp2_with fail
          refine (isName_at s k wr false hs hlt H0.out (by simpa using HO.out)).mono ?_
          rintro e wx ⟨rfl, hb⟩
          have hcx := (hb.cell (p := ⟨w.heap.size, k, none⟩) hrlt).trans hc
          have hfx := (hb.frozen (p := ⟨w.heap.size, k, none⟩) hrlt).trans hfz
          clear hc hfz
          go_wp2
          go_roundw
          case rel =>
            have hst := rel_step hbel hb HR.out _ (rep_no s k HO.out)
            exact ⟨k + 1, by omega, by go_num, by rw [HN.out, if_neg HO.out], hst.1, hst.2⟩
          case measure => simp [intOf]; omega
    · have hkk : k = s.size := by omega
      subst hkk
      have hcv := back_conv hrow
      go_wp2
      go_ret2
      exact ⟨rfl, hbel⟩

theorem repair_none (w : World) :
    Calls Try.prog 11 #[.string ⟨#[]⟩] w fun e w' => e = .returned (.tuple #[.string ⟨#[95]⟩, .int .i64 0]) ∧ Below w.heap.size w w' := by
  go_enter Try.func11, Try.ntmps11
  go_wp2
  go_ret2
  exact ⟨rfl, Below.refl _ _⟩

/-- the repaired text -/
def rep (s : ByteArray) : ByteArray := if s.size = 0 then ⟨#[95]⟩ else fin s

theorem empty_of (s : ByteArray) (h : s.size = 0) : s = ⟨#[]⟩ := by
  cases s with
  | mk d =>
    have h' : d.size = 0 := h
    rw [Array.size_eq_zero_iff] at h'
    rw [h']

theorem repair_any (s : ByteArray) (w : World) (hs : s.size ≤ 1048576) :
    Calls Try.prog 11 #[.string s] w fun e w' => e = .returned (.tuple #[.string (rep s), .int .i64 (cnt s s.size)]) ∧ Below w.heap.size w w' := by
  by_cases h : s.size = 0
  · obtain rfl := empty_of s h
    exact repair_none w
  · have := repair_some s w hs (by omega)
    unfold rep
    rw [if_neg h]
    exact this

/-! ### the plain law -/

theorem fin_size (s : ByteArray) : (fin s).size = s.size := by
  show (((List.range s.size).map (repAt s)).toArray).size = _
  simp

theorem fin_getD (s : ByteArray) (j : Nat) (h : j < s.size) : (fin s).data.toList.getD j 0 = repAt s j := by
  simp [fin, List.getD, h]

theorem ok_rep (s : ByteArray) (j : Nat) : P.okAt j (repAt s j) = true := by
  unfold repAt
  split
  · assumption
  · have : P.letB 95 = true := by decide
    simp [P.okAt, this]

theorem cnt_zero (s : ByteArray) : ∀ k, (∀ j, j < k → P.okAt j (s.data.toList.getD j 0) = true) → cnt s k = 0
  | 0, _ => rfl
  | k + 1, h => by
    have h1 := cnt_zero s k (fun j hj => h j (by omega))
    have h2 := h k (by omega)
    show cnt s k + _ = 0
    rw [h1, if_pos h2]

theorem zero_cnt (s : ByteArray) : ∀ k, cnt s k = 0 → ∀ j, j < k → P.okAt j (s.data.toList.getD j 0) = true
  | 0, _, j, hj => absurd hj (Nat.not_lt_zero _)
  | k + 1, h, j, hj => by
    have h' : cnt s k + (if P.okAt k (s.data.toList.getD k 0) = true then 0 else 1) = 0 := h
    by_cases e : j = k
    · subst e
      by_cases ho : P.okAt j (s.data.toList.getD j 0) = true
      · exact ho
      · rw [if_neg ho] at h'; omega
    · exact zero_cnt s k (by omega) j (by omega)

theorem fin_ok (s : ByteArray) (j : Nat) (h : j < s.size) : P.okAt j ((fin s).data.toList.getD j 0) = true := by
  rw [fin_getD s j h]
  exact ok_rep s j

theorem rep_pos (s : ByteArray) : 0 < (rep s).size := by
  unfold rep
  split
  · show 0 < 1; omega
  · rw [fin_size]; omega

theorem rep_size (s : ByteArray) (h : s.size ≤ 1048576) : (rep s).size ≤ 1048576 := by
  unfold rep
  split
  · show 1 ≤ _; omega
  · rw [fin_size]; omega

theorem repOk (s : ByteArray) (j : Nat) (h : j < (rep s).size) : P.okAt j ((rep s).data.toList.getD j 0) = true := by
  unfold rep at h ⊢
  by_cases e : s.size = 0
  · rw [if_pos e] at h ⊢
    have : j = 0 := by
      have h' : j < 1 := h
      omega
    subst this
    decide
  · rw [if_neg e] at h ⊢
    rw [fin_size] at h
    exact fin_ok s j h

theorem rep_nm (s : ByteArray) : P.nm (rep s).data.toList = true := by
  have hl : (rep s).data.toList.length = (rep s).size := by simp
  exact P.nm_yes _ (by have := rep_pos s; omega) (fun j hj => repOk s j (by omega))

theorem rep_cnt (s : ByteArray) : cnt (rep s) (rep s).size = 0 := cnt_zero _ _ (fun j hj => repOk s j hj)

theorem fin_same (s : ByteArray) (h : ∀ j, j < s.size → P.okAt j (s.data.toList.getD j 0) = true) : fin s = s := by
  have hl : s.data.toList.length = s.size := by simp
  have : (List.range s.size).map (repAt s) = s.data.toList := by
    apply List.ext_getElem
    · simp
    · intro j h1 h2
      have hj : j < s.size := by simpa using h1
      simp only [List.getElem_map, List.getElem_range]
      unfold repAt
      rw [if_pos (h j hj)]
      simp [List.getD, List.getElem?_eq_getElem h2]
  unfold fin
  rw [this]

theorem rep_rep (s : ByteArray) : rep (rep s) = rep s := by
  have h := rep_pos s
  have : rep (rep s) = fin (rep s) := by
    show (if (rep s).size = 0 then _ else fin (rep s)) = _
    rw [if_neg (by omega)]
  rw [this]
  exact fin_same _ (fun j hj => repOk s j hj)

theorem nm_iff (s : ByteArray) : P.nm s.data.toList = (decide (0 < s.size) && decide (cnt s s.size = 0)) := by
  have hl : s.data.toList.length = s.size := by simp
  by_cases h0 : s.size = 0
  · obtain rfl := empty_of s h0
    rfl
  · by_cases hc : cnt s s.size = 0
    · rw [P.nm_yes _ (by omega) (fun j hj => zero_cnt s _ hc j (by omega))]
      simp [hc]; omega
    · by_cases hn : P.nm s.data.toList = true
      · exfalso
        apply hc
        refine cnt_zero s _ fun j hj => ?_
        by_cases ho : P.okAt j (s.data.toList.getD j 0) = true
        · exact ho
        · rw [P.nm_no _ j (by omega) (by simpa using ho)] at hn
          cases hn
      · rw [Bool.not_eq_true] at hn
        rw [hn]
        simp [hc]

end Go.Proofs.Qxb6628672a
