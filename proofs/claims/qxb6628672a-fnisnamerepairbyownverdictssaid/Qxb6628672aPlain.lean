/-
  Plain mathematics for the seat: which lists of bytes are names. No Go in sight.
-/
import Derived.WalkKit
namespace Go.Proofs.Qxb6628672a.P

/-- a letter or '_' -/
def letB (c : UInt8) : Bool := (decide (97 ≤ c.toNat) && decide (c.toNat ≤ 122)) || (decide (65 ≤ c.toNat) && decide (c.toNat ≤ 90)) || decide (c.toNat = 95)
/-- a digit -/
def digB (c : UInt8) : Bool := decide (48 ≤ c.toNat) && decide (c.toNat ≤ 57)
/-- may c stand at place j of a name? -/
def okAt (j : Nat) (c : UInt8) : Bool := letB c || (decide (j ≠ 0) && digB c)
/-- is the list a name? -/
def nm (l : List UInt8) : Bool := !l.isEmpty && (List.range l.length).all fun j => okAt j (l.getD j 0)

theorem nm_no (l : List UInt8) (k : Nat) (hk : k < l.length) (h : okAt k (l.getD k 0) = false) : nm l = false := by
  unfold nm
  rw [Bool.and_eq_false_iff]
  right
  rw [List.all_eq_false]
  exact ⟨k, by simpa using hk, by rw [h]; exact Bool.false_ne_true⟩

theorem nm_yes (l : List UInt8) (hk : 0 < l.length) (h : ∀ j, j < l.length → okAt j (l.getD j 0) = true) : nm l = true := by
  unfold nm
  rw [Bool.and_eq_true]
  refine ⟨by cases l <;> simp_all, ?_⟩
  rw [List.all_eq_true]
  intro j hj
  exact h j (by simpa using hj)

theorem ok_yes {j : Nat} {c : UInt8} (h : okAt j c = true) : (97 ≤ (c.toNat : Int) ∧ (c.toNat : Int) ≤ 122) ∨ (¬ 97 ≤ (c.toNat : Int) ∧ 65 ≤ (c.toNat : Int) ∧ (c.toNat : Int) ≤ 90) ∨ (¬ 97 ≤ (c.toNat : Int) ∧ 65 ≤ (c.toNat : Int) ∧ ¬ (c.toNat : Int) ≤ 90 ∧ ((c.toNat : Int) == 95) = true) ∨ (¬ 97 ≤ (c.toNat : Int) ∧ ¬ 65 ≤ (c.toNat : Int) ∧ ((c.toNat : Int) == 95) = false ∧ ((j : Int) == 0) = false ∧ ¬ (c.toNat : Int) < 48 ∧ ¬ 57 < (c.toNat : Int)) := by
  simp only [okAt, letB, digB, Bool.or_eq_true, Bool.and_eq_true, decide_eq_true_eq] at h
  simp only [beq_iff_eq, beq_eq_false_iff_ne]
  omega

theorem ok_no {j : Nat} {c : UInt8} (h : okAt j c = false) :
    (¬ 97 ≤ (c.toNat : Int) ∧ ¬ 65 ≤ (c.toNat : Int) ∧ ((c.toNat : Int) == 95) = false ∧ ((j : Int) == 0) = true) ∨ (¬ 97 ≤ (c.toNat : Int) ∧ ¬ 65 ≤ (c.toNat : Int) ∧ ((c.toNat : Int) == 95) = false ∧ ((j : Int) == 0) = false ∧ (c.toNat : Int) < 48) ∨ (¬ 97 ≤ (c.toNat : Int) ∧ ¬ 65 ≤ (c.toNat : Int) ∧ ((c.toNat : Int) == 95) = false ∧ ((j : Int) == 0) = false ∧ ¬ (c.toNat : Int) < 48 ∧ 57 < (c.toNat : Int))
    ∨ (¬ 97 ≤ (c.toNat : Int) ∧ 65 ≤ (c.toNat : Int) ∧ ¬ (c.toNat : Int) ≤ 90 ∧ ((c.toNat : Int) == 95) = false ∧ ((j : Int) == 0) = true) ∨ (¬ 97 ≤ (c.toNat : Int) ∧ 65 ≤ (c.toNat : Int) ∧ ¬ (c.toNat : Int) ≤ 90 ∧ ((c.toNat : Int) == 95) = false ∧ ((j : Int) == 0) = false ∧ ¬ (c.toNat : Int) < 48 ∧ 57 < (c.toNat : Int))
    ∨ (97 ≤ (c.toNat : Int) ∧ ¬ (c.toNat : Int) ≤ 122 ∧ 65 ≤ (c.toNat : Int) ∧ ¬ (c.toNat : Int) ≤ 90 ∧ ((c.toNat : Int) == 95) = false ∧ ((j : Int) == 0) = true) ∨ (97 ≤ (c.toNat : Int) ∧ ¬ (c.toNat : Int) ≤ 122 ∧ 65 ≤ (c.toNat : Int) ∧ ¬ (c.toNat : Int) ≤ 90 ∧ ((c.toNat : Int) == 95) = false ∧ ((j : Int) == 0) = false ∧ ¬ (c.toNat : Int) < 48 ∧ 57 < (c.toNat : Int)) := by
  simp only [okAt, letB, digB, Bool.or_eq_false_iff, Bool.and_eq_false_iff, decide_eq_false_iff_not] at h
  obtain ⟨⟨⟨ha, hb⟩, hc⟩, hd⟩ := h
  simp only [beq_iff_eq, beq_eq_false_iff_ne]
  by_cases h0 : j = 0
  · by_cases h1 : c.toNat < 65
    · exact .inl ⟨by omega, by omega, by omega, by omega⟩
    · by_cases h2 : c.toNat < 97
      · exact .inr (.inr (.inr (.inl ⟨by omega, by omega, by omega, by omega, by omega⟩)))
      · exact .inr (.inr (.inr (.inr (.inr (.inl ⟨by omega, by omega, by omega, by omega, by omega, by omega⟩)))))
  · by_cases h1 : c.toNat < 65
    · by_cases h2 : c.toNat < 48
      · exact .inr (.inl ⟨by omega, by omega, by omega, by omega, by omega⟩)
      · exact .inr (.inr (.inl ⟨by omega, by omega, by omega, by omega, by omega, by omega⟩))
    · by_cases h2 : c.toNat < 97
      · exact .inr (.inr (.inr (.inr (.inl ⟨by omega, by omega, by omega, by omega, by omega, by omega, by omega⟩))))
      · exact .inr (.inr (.inr (.inr (.inr (.inr ⟨by omega, by omega, by omega, by omega, by omega, by omega, by omega, by omega⟩)))))

theorem nm_full (s : ByteArray) (h : ∀ j, j < s.size → okAt j (s.data.toList.getD j 0) = true) : (!s.toList.isEmpty) = nm s.data.toList := by
  rw [ByteArray.toList_eq]
  have hL : s.data.toList.length = s.size := by simp
  by_cases h0 : s.size = 0
  · have : s.data.toList = [] := List.eq_nil_of_length_eq_zero (by omega)
    rw [this]; rfl
  · rw [nm_yes _ (by omega) (fun j hj => h j (by omega))]
    cases hl : s.data.toList with
    | nil => rw [hl] at hL; simp at hL; omega
    | cons a b => rfl

theorem nm_nil : nm [] = false := rfl

theorem nm_cons (c : UInt8) (l : List UInt8) : nm (c :: l) = (letB c && l.all fun d => letB d || digB d) := by
  by_cases h : nm (c :: l) = true
  · rw [h]
    unfold nm at h
    rw [Bool.and_eq_true, List.all_eq_true] at h
    have h0 := h.2 0 (by simp)
    symm
    rw [Bool.and_eq_true, List.all_eq_true]
    refine ⟨by simpa [okAt] using h0, fun d hd => ?_⟩
    obtain ⟨i, hi, rfl⟩ := List.mem_iff_getElem.1 hd
    have h1 := h.2 (i + 1) (by simp; omega)
    simpa [okAt, List.getD, hi] using h1
  · rw [Bool.not_eq_true] at h
    rw [h]
    symm
    rw [Bool.eq_false_iff]
    intro hc
    rw [Bool.and_eq_true, List.all_eq_true] at hc
    rw [Bool.eq_false_iff] at h
    refine h (nm_yes _ (by simp) fun j hj => ?_)
    cases j with
    | zero => simp [okAt, hc.1]
    | succ i =>
      have hi : i < l.length := by simpa using hj
      have := hc.2 l[i] (List.getElem_mem hi)
      simpa [okAt, List.getD, hi] using this

theorem nm_cut (l : List UInt8) (k : Nat) (h1 : 1 ≤ k) (h2 : k ≤ l.length) : nm l = (nm (l.take k) && nm (95 :: l.drop k)) := by
  cases l with
  | nil => simp at h2; omega
  | cons c l =>
    obtain ⟨j, rfl⟩ : ∃ j, k = j + 1 := ⟨k - 1, by omega⟩
    have h95 : letB 95 = true := by decide
    rw [List.take_succ_cons, List.drop_succ_cons, nm_cons, nm_cons, nm_cons, h95, Bool.true_and, Bool.and_assoc]
    congr 1
    rw [← List.all_append, List.take_append_drop]

end Go.Proofs.Qxb6628672a.P
