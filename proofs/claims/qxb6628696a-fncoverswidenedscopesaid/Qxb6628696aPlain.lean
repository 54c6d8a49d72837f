/-
  SEAT b6628696a: THE PLAIN MATHEMATICS: tags as lists of byte strings; what slices.Index, Contains and Scope.Covers answer. No Go in sight.
-/
namespace Go.Proofs.Qxb6628696a.Plain

/-- The first place, counted from n, of an element of which p says yes; -1 where there is none. -/
def fidx (p : ByteArray → Bool) : List ByteArray → Nat → Int
  | [], _ => -1
  | y :: r, n => if p y then (n : Int) else fidx p r (n + 1)

theorem fidx_nonneg (p : ByteArray → Bool) (l : List ByteArray) (n : Nat) : decide (0 ≤ fidx p l n) = l.any p := by
  induction l generalizing n with
  | nil => rfl
  | cons y r ih =>
    simp only [fidx, List.any_cons]
    by_cases h : p y = true
    · simp only [h, if_true, Bool.true_or, decide_eq_true_eq]; omega
    · simp only [h, if_false, Bool.false_or, Bool.false_eq_true]; exact ih (n + 1)

theorem fidx_drop (p : ByteArray → Bool) (l : List ByteArray) (k : Nat) (h : k < l.length) :
    fidx p (l.drop k) k = if p (l.getD k ByteArray.empty) then (k : Int) else fidx p (l.drop (k + 1)) (k + 1) := by
  rw [List.drop_eq_getElem_cons h]
  simp only [fidx, List.getD, List.getElem?_eq_getElem h, Option.getD_some]

theorem fidx_end (p : ByteArray → Bool) (l : List ByteArray) (k : Nat) (h : l.length ≤ k) : fidx p (l.drop k) k = -1 := by
  rw [List.drop_eq_nil_of_le h]; rfl

/-- Go's '==' on strings, as the walk writes it. -/
def same (x : ByteArray) (y : ByteArray) : Bool := x.toList == y.toList

theorem same_self (x : ByteArray) : same x x = true := by simp [same]

/-- slices.Contains. -/
def has (ss : List ByteArray) (x : ByteArray) : Bool := ss.any (same x)

theorem has_mem {ss : List ByteArray} {x : ByteArray} (h : x ∈ ss) : has ss x = true := by
  simp only [has, List.any_eq_true]
  exact ⟨x, h, same_self x⟩

theorem has_append (s t : List ByteArray) (x : ByteArray) : has (s ++ t) x = (has s x || has t x) := by simp [has]

/-- ContainsFunc's answer in Covers: some tag of o is not among s. -/
def miss (s o : List ByteArray) : Bool := o.any fun t => !has s t

/-- Scope.Covers: 'n', 'm': are the tags nil? -/
def covers (n : Bool) (s : List ByteArray) (m : Bool) (o : List ByteArray) : Bool := n || (!m && !miss s o)

theorem miss_self (s : List ByteArray) : miss s s = false := by
  simp only [miss, List.any_eq_false]
  intro x hx
  simp [has_mem hx]

theorem miss_append (s a b : List ByteArray) : miss s (a ++ b) = (miss s a || miss s b) := by simp [miss]

theorem miss_wide {s e o : List ByteArray} (h : miss s o = false) : miss (s ++ e) o = false := by
  simp only [miss, List.any_eq_false] at h ⊢
  intro x hx
  have := h x hx
  simp only [has_append]
  cases hs : has s x
  · simp [hs] at this
  · simp

theorem miss_wide_self (s e : List ByteArray) : miss (s ++ e) s = false := miss_wide (miss_self s)

end Go.Proofs.Qxb6628696a.Plain
