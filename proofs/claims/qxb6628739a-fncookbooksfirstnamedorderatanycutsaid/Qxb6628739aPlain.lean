/-
  SEAT b6628739a: THE PLAIN MATHEMATICS: cookbooks as lists of byte strings; each once, in the order of first naming. No Go in sight.
-/
import Derived.Laws.Strings
namespace Go.Proofs.Qxb6628739a.Plain

theorem same_iff (x y : ByteArray) : (x.toList == y.toList) = true ↔ x = y := by
  rw [beq_iff_eq, ByteArray.toList_eq, ByteArray.toList_eq]
  constructor
  · intro h
    cases x; cases y
    congr
    exact Array.toList_inj.1 h
  · rintro rfl; rfl

/-- cbHas. -/
def has (s : List ByteArray) (x : ByteArray) : Bool := s.any fun y => y.toList == x.toList

theorem has_iff {s : List ByteArray} {x : ByteArray} : has s x = true ↔ x ∈ s := by
  simp only [has, List.any_eq_true]
  constructor
  · rintro ⟨y, hy, h⟩
    rw [← (same_iff y x).1 h]; exact hy
  · intro h
    exact ⟨x, h, (same_iff x x).2 rfl⟩

theorem has_false {s : List ByteArray} {x : ByteArray} : has s x = false ↔ x ∉ s := by
  rw [← Bool.not_eq_true, has_iff]

theorem has_append (s t : List ByteArray) (x : ByteArray) : has (s ++ t) x = (has s x || has t x) := by simp [has]

/-- One round of Cookbooks. -/
def step (acc : List ByteArray) (x : ByteArray) : List ByteArray := if has acc x then acc else acc ++ [x]

/-- Cookbooks: each once, in the order of first naming. -/
def dd (xs : List ByteArray) : List ByteArray := xs.foldl step []

theorem dd_snoc (xs : List ByteArray) (x : ByteArray) : dd (xs ++ [x]) = step (dd xs) x := by simp [dd, List.foldl_append]

theorem snoc_ind {P : List ByteArray → Prop} (h0 : P []) (h1 : ∀ l x, P l → P (l ++ [x])) : ∀ l, P l := by
  intro l
  rw [← List.reverse_reverse l]
  generalize l.reverse = m
  induction m with
  | nil => exact h0
  | cons x r ih => rw [List.reverse_cons]; exact h1 _ _ ih

theorem mem_step {acc : List ByteArray} {x y : ByteArray} : y ∈ step acc x ↔ y ∈ acc ∨ y = x := by
  unfold step
  split
  · rename_i h
    rw [has_iff] at h
    constructor
    · exact .inl
    · rintro (h' | rfl)
      · exact h'
      · exact h
  · simp

theorem mem_dd {xs : List ByteArray} : ∀ {y}, y ∈ dd xs ↔ y ∈ xs := by
  induction xs using snoc_ind with
  | h0 => intro y; simp [dd]
  | h1 l x ih => intro y; rw [dd_snoc, mem_step, ih]; simp

theorem length_dd (xs : List ByteArray) : (dd xs).length ≤ xs.length := by
  induction xs using snoc_ind with
  | h0 => simp [dd]
  | h1 l x ih =>
    rw [dd_snoc]
    unfold step
    split
    · simp; omega
    · simp; omega

theorem dd_nil {xs : List ByteArray} : dd xs = [] ↔ xs = [] := by
  constructor
  · intro h
    cases xs with
    | nil => rfl
    | cons x r =>
      have : x ∈ dd (x :: r) := mem_dd.2 (by simp)
      rw [h] at this
      simp at this
  · rintro rfl; rfl

/-- What a second stretch adds. -/
theorem fold_step (acc xs : List ByteArray) : xs.foldl step acc = acc ++ (dd xs).filter fun y => !has acc y := by
  induction xs using snoc_ind with
  | h0 => simp [dd]
  | h1 l x ih =>
    rw [List.foldl_append, List.foldl_cons, List.foldl_nil, ih, dd_snoc]
    by_cases hL : x ∈ dd l
    · have e1 : step (dd l) x = dd l := by rw [step, if_pos (has_iff.2 hL)]
      rw [e1, step, if_pos]
      rw [has_iff]
      by_cases ha : x ∈ acc
      · simp [ha]
      · simp [hL, has_false.2 ha]
    · have e1 : step (dd l) x = dd l ++ [x] := by rw [step, if_neg (by rw [has_iff]; exact hL)]
      rw [e1, List.filter_append]
      by_cases ha : x ∈ acc
      · rw [step, if_pos (by rw [has_iff]; simp [ha])]
        simp [has_iff.2 ha]
      · rw [step, if_neg (by rw [has_iff]; simp [ha, hL])]
        simp [has_false.2 ha]

theorem dd_append (a b : List ByteArray) : dd (a ++ b) = dd a ++ (dd b).filter fun y => !has (dd a) y := by
  show (a ++ b).foldl step [] = _
  rw [List.foldl_append, fold_step]
  rfl

theorem dd_twice (a : List ByteArray) : dd (a ++ a) = dd a := by
  rw [dd_append]
  have : (dd a).filter (fun y => !has (dd a) y) = [] := by
    rw [List.filter_eq_nil_iff]
    intro y hy
    simp [has_iff.2 hy]
  rw [this, List.append_nil]

theorem nodup_dd (xs : List ByteArray) : (dd xs).Nodup := by
  induction xs using snoc_ind with
  | h0 => simp [dd]
  | h1 l x ih =>
    rw [dd_snoc]
    unfold step
    split
    · exact ih
    · rename_i h
      rw [has_iff] at h
      rw [List.nodup_append]
      refine ⟨ih, by simp, ?_⟩
      intro a ha b hb
      simp at hb
      subst hb
      rintro rfl
      exact h ha

theorem dd_of_nodup {xs : List ByteArray} : xs.Nodup → dd xs = xs := by
  induction xs using snoc_ind with
  | h0 => intro _; rfl
  | h1 l x ih =>
    intro h
    rw [List.nodup_append] at h
    rw [dd_snoc, ih h.1, step, if_neg]
    rw [has_iff]
    intro hx
    exact h.2.2 x hx x (by simp) rfl

theorem dd_dd (xs : List ByteArray) : dd (dd xs) = dd xs := dd_of_nodup (nodup_dd xs)

/-! ### the first index -/
def fidx (p : ByteArray → Bool) : List ByteArray → Nat → Int
  | [], _ => -1
  | y :: r, n => if p y then (n : Int) else fidx p r (n + 1)

theorem fidx_drop (p : ByteArray → Bool) (l : List ByteArray) (k : Nat) (h : k < l.length) :
    fidx p (l.drop k) k = if p (l.getD k ByteArray.empty) then (k : Int) else fidx p (l.drop (k + 1)) (k + 1) := by
  rw [List.drop_eq_getElem_cons h]
  simp only [fidx, List.getD, List.getElem?_eq_getElem h, Option.getD_some]

theorem fidx_end (p : ByteArray → Bool) (l : List ByteArray) (k : Nat) (h : l.length ≤ k) : fidx p (l.drop k) k = -1 := by
  rw [List.drop_eq_nil_of_le h]; rfl

theorem fidx_append (p : ByteArray → Bool) (l r : List ByteArray) (n : Nat) : fidx p (l ++ r) n = if l.any p then fidx p l n else fidx p r (n + l.length) := by
  induction l generalizing n with
  | nil => simp
  | cons y t ih =>
    simp only [List.cons_append, fidx, List.any_cons, List.length_cons]
    by_cases h : p y = true
    · simp [h]
    · simp only [h, if_false, Bool.false_or, Bool.false_eq_true]
      rw [ih]
      have : n + 1 + t.length = n + (t.length + 1) := by omega
      rw [this]

theorem fidx_lt (p : ByteArray → Bool) (l : List ByteArray) (n : Nat) (h : l.any p = true) : (n : Int) ≤ fidx p l n ∧ fidx p l n < n + l.length := by
  induction l generalizing n with
  | nil => simp at h
  | cons y t ih =>
    simp only [fidx, List.length_cons]
    by_cases hy : p y = true
    · simp only [hy, if_true]; omega
    · simp only [hy, if_false, Bool.false_eq_true]
      have := ih (n + 1) (by simpa [hy] using h)
      omega

/-- cbFirst. -/
def fst (xs : List ByteArray) (c : ByteArray) : Int := fidx (fun y => y.toList == c.toList) xs 0

theorem fst_mem {xs : List ByteArray} {c : ByteArray} (h : c ∈ xs) : 0 ≤ fst xs c ∧ fst xs c < xs.length := by
  have := fidx_lt (fun y => y.toList == c.toList) xs 0 (has_iff.2 h)
  simpa [fst] using this

theorem fst_snoc_old {xs : List ByteArray} {c x : ByteArray} (h : c ∈ xs) : fst (xs ++ [x]) c = fst xs c := by
  unfold fst
  rw [fidx_append]
  exact if_pos (has_iff.2 h)

theorem fst_snoc_new {xs : List ByteArray} {x : ByteArray} (h : x ∉ xs) : fst (xs ++ [x]) x = xs.length := by
  unfold fst
  rw [fidx_append, if_neg (by rw [show (xs.any fun y => y.toList == x.toList) = has xs x from rfl, has_iff]; exact h)]
  simp [fidx]

theorem fst_inc (xs : List ByteArray) : (dd xs).Pairwise fun a b => fst xs a < fst xs b := by
  induction xs using snoc_ind with
  | h0 => simp [dd]
  | h1 l x ih =>
    have hold : (dd l).Pairwise fun a b => fst (l ++ [x]) a < fst (l ++ [x]) b := by
      refine ih.imp_of_mem ?_
      intro a b ha hb h
      rw [fst_snoc_old (mem_dd.1 ha), fst_snoc_old (mem_dd.1 hb)]
      exact h
    rw [dd_snoc]
    unfold step
    split
    · exact hold
    · rename_i h
      rw [has_iff, mem_dd] at h
      rw [List.pairwise_append]
      refine ⟨hold, by simp, ?_⟩
      intro a ha b hb
      simp at hb
      subst hb
      rw [fst_snoc_old (mem_dd.1 ha), fst_snoc_new h]
      exact (fst_mem (mem_dd.1 ha)).2

/-- The first index of the k-th entry is beyond the one before it (-1 ahead of the first). -/
def prev (xs : List ByteArray) : Nat → Int
  | 0 => -1
  | k + 1 => fst xs ((dd xs).getD k ByteArray.empty)

theorem prev_lt (xs : List ByteArray) (k : Nat) (h : k < (dd xs).length) : prev xs k < fst xs ((dd xs).getD k ByteArray.empty) := by
  have hk : (dd xs).getD k ByteArray.empty = (dd xs)[k] := by simp [List.getD, List.getElem?_eq_getElem h]
  cases k with
  | zero =>
    have := (fst_mem (mem_dd.1 (List.getElem_mem h))).1
    rw [hk]
    show -1 < _
    omega
  | succ j =>
    have hj : (dd xs).getD j ByteArray.empty = (dd xs)[j] := by simp [List.getD, List.getElem?_eq_getElem (show j < (dd xs).length by omega)]
    rw [hk]
    show fst xs ((dd xs).getD j ByteArray.empty) < _
    rw [hj]
    exact List.pairwise_iff_getElem.1 (fst_inc xs) j (j + 1) (by omega) h (by omega)

/-! ### cbEq -/
def eqS (a b : List ByteArray) : Bool := decide (a = b)

end Go.Proofs.Qxb6628739a.Plain
