/-
  SEAT b6628767a: THE PLAIN MATHEMATICS: IDs as lists of bytes. No Go in sight.
-/
namespace Go.Proofs.Qxb6628767a.Plain

/-- The byte (as a number) may stand in an ID. -/
def okI (c : Int) : Bool := decide (97 ≤ c ∧ c ≤ 122) || decide (65 ≤ c ∧ c ≤ 90) || decide (48 ≤ c ∧ c ≤ 57) || decide (c = 45) || decide (c = 95)

def okB (b : UInt8) : Bool := okI (b.toNat : Int)

/-- What IsID answers. -/
def isID (l : List UInt8) : Bool := decide (1 ≤ l.length ∧ l.length ≤ 32) && l.all okB

/-- IsID's variable 'valid' when k bytes have been looked at. -/
def valid (l : List UInt8) (k : Nat) : Bool := decide (1 ≤ l.length ∧ l.length ≤ 32) && (l.take k).all okB

theorem valid_zero (l : List UInt8) : valid l 0 = decide (1 ≤ l.length ∧ l.length ≤ 32) := by simp [valid]

theorem valid_succ (l : List UInt8) (k : Nat) (h : k < l.length) : valid l (k + 1) = (valid l k && okB l[k]) := by
  simp only [valid]
  rw [List.take_succ_eq_append_getElem h, List.all_append]
  simp [Bool.and_assoc]

theorem valid_all (l : List UInt8) (k : Nat) (h : l.length ≤ k) : valid l k = isID l := by
  rw [valid, isID, List.take_of_length_le h]

theorem valid_false (l : List UInt8) (k : Nat) (h : valid l k = false) : isID l = false := by
  unfold valid at h
  unfold isID
  cases hd : decide (1 ≤ l.length ∧ l.length ≤ 32)
  · rfl
  · rw [hd, Bool.true_and] at h
    rw [Bool.true_and]
    have e : l.all okB = ((l.take k).all okB && (l.drop k).all okB) := by rw [← List.all_append, List.take_append_drop]
    rw [e, h, Bool.false_and]

/-- THE PLAIN LAW of FnIsIDCut, its first half. -/
theorem cut_law (l : List UInt8) (i : Nat) (h : i ≤ l.length) :
    isID l = (decide (1 ≤ l.length ∧ l.length ≤ 32) && (decide (i = 0) || isID (l.take i)) && (decide (i = l.length) || isID (l.drop i))) := by
  cases hd : decide (1 ≤ l.length ∧ l.length ≤ 32)
  · simp only [isID, hd, Bool.false_and]
  · have hd' := of_decide_eq_true hd
    have e : l.all okB = ((l.take i).all okB && (l.drop i).all okB) := by rw [← List.all_append, List.take_append_drop]
    have e1 : (decide (i = 0) || isID (l.take i)) = (l.take i).all okB := by
      by_cases h0 : i = 0
      · subst h0; simp
      · have : decide (1 ≤ (l.take i).length ∧ (l.take i).length ≤ 32) = true := decide_eq_true (by rw [List.length_take]; omega)
        simp only [isID, this, Bool.true_and, decide_eq_false h0, Bool.false_or]
    have e2 : (decide (i = l.length) || isID (l.drop i)) = (l.drop i).all okB := by
      by_cases h0 : i = l.length
      · rw [List.drop_eq_nil_of_le (by omega)]; simp [h0]
      · have : decide (1 ≤ (l.drop i).length ∧ (l.drop i).length ≤ 32) = true := decide_eq_true (by rw [List.length_drop]; omega)
        simp only [isID, this, Bool.true_and, decide_eq_false h0, Bool.false_or]
    rw [e1, e2, Bool.true_and, isID, hd, Bool.true_and, e]

/-- One byte. -/
theorem one_law (b : UInt8) : isID [b] = okB b := by simp [isID]

/-- THE PLAIN LAW of FnIsIDInsert. -/
theorem insert_law (l : List UInt8) (b : UInt8) (i : Nat) (h : i ≤ l.length) :
    isID (l.take i ++ [b] ++ l.drop i) = (decide (l.length ≤ 31) && (decide (l.length = 0) || isID l) && okB b) := by
  have hlen : (l.take i ++ [b] ++ l.drop i).length = l.length + 1 := by simp; omega
  have hall : (l.take i ++ [b] ++ l.drop i).all okB = (l.all okB && okB b) := by
    have e : l.all okB = ((l.take i).all okB && (l.drop i).all okB) := by rw [← List.all_append, List.take_append_drop]
    rw [e]
    simp only [List.all_append, List.all_cons, List.all_nil, Bool.and_true]
    cases (l.take i).all okB <;> cases okB b <;> cases (l.drop i).all okB <;> rfl
  rw [isID, hlen, hall]
  by_cases h31 : l.length ≤ 31
  · have d1 : decide (1 ≤ l.length + 1 ∧ l.length + 1 ≤ 32) = true := decide_eq_true (by omega)
    rw [d1, decide_eq_true h31, Bool.true_and, Bool.true_and]
    by_cases h0 : l.length = 0
    · have : l = [] := List.eq_nil_of_length_eq_zero h0
      subst this
      simp
    · have d2 : decide (1 ≤ l.length ∧ l.length ≤ 32) = true := decide_eq_true (by omega)
      rw [isID, d2, decide_eq_false h0, Bool.true_and, Bool.false_or]
  · have d1 : decide (1 ≤ l.length + 1 ∧ l.length + 1 ≤ 32) = false := decide_eq_false (by omega)
    rw [d1, decide_eq_false h31]
    simp

end Go.Proofs.Qxb6628767a.Plain
