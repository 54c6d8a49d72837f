/-
  THE PLAIN MATHEMATICS of seat b6628659a: two vectors as lists of integers, a missing counter being 0. No Go in sight.
-/
namespace Go.Proofs.Qxb6628659a.Plain

/-- Some counter below place k of v is less than w's. -/
def bel (v w : List Int) : Nat → Bool
  | 0 => false
  | k + 1 => bel v w k || decide (v.getD k 0 < w.getD k 0)

/-- What Compare answers. -/
def code (b a : Bool) : Int := if b && a then 4 else if b then 1 else if a then 2 else 3

def cmp (v w : List Int) : Int := code (bel v w (max v.length w.length)) (bel w v (max v.length w.length))

/-- What zzDominatedBy answers of the first k counters. -/
def dom (a b : List Int) : Nat → Bool
  | 0 => true
  | k + 1 => dom a b k && decide (a.getD k 0 ≤ b.getD k 0)

theorem bel_true {v w : List Int} {k : Nat} : bel v w k = true ↔ ∃ i, i < k ∧ v.getD i 0 < w.getD i 0 := by
  induction k with
  | zero => simp [bel]
  | succ k ih =>
    rw [bel, Bool.or_eq_true, ih, decide_eq_true_iff]
    constructor
    · rintro (⟨i, h, h'⟩ | h)
      · exact ⟨i, by omega, h'⟩
      · exact ⟨k, by omega, h⟩
    · rintro ⟨i, h, h'⟩
      by_cases e : i = k
      · subst e; exact .inr h'
      · exact .inl ⟨i, by omega, h'⟩

theorem dom_true {a b : List Int} {k : Nat} : dom a b k = true ↔ ∀ i, i < k → a.getD i 0 ≤ b.getD i 0 := by
  induction k with
  | zero => simp [dom]
  | succ k ih =>
    rw [dom, Bool.and_eq_true, ih, decide_eq_true_iff]
    constructor
    · rintro ⟨h, h'⟩ i hi
      by_cases e : i = k
      · subst e; exact h'
      · exact h i (by omega)
    · intro h
      exact ⟨fun i hi => h i (by omega), h k (by omega)⟩

theorem getD_out (v : List Int) (i : Nat) (h : v.length ≤ i) : v.getD i 0 = 0 := by
  simp [List.getD, List.getElem?_eq_none h]

/-- Every element is at least 0. -/
def Nn (v : List Int) : Prop := ∀ i, 0 ≤ v.getD i 0

/-- 'every counter of a is at most b's' asked over a's own length is the same as asked over any longer stretch. -/
theorem dom_not_bel {a b : List Int} (hb : Nn b) {n : Nat} (hn : a.length ≤ n) : dom a b a.length = !(bel b a n) := by
  rw [Bool.eq_iff_iff, dom_true, Bool.not_eq_true', ← Bool.not_eq_true, bel_true]
  constructor
  · rintro h ⟨i, hi, hlt⟩
    by_cases hl : i < a.length
    · have := h i hl; omega
    · have h1 := getD_out a i (by omega); have h2 := hb i; omega
  · intro h i hi
    by_cases hl : b.getD i 0 < a.getD i 0
    · exact absurd ⟨i, by omega, hl⟩ h
    · omega

/-- THE PLAIN LAW of FnCompareMatchesDominance. -/
theorem dominance {v w : List Int} (hv : Nn v) (hw : Nn w) :
    cmp v w = if dom v w v.length && dom w v w.length then 3 else if dom v w v.length then 1 else if dom w v w.length then 2 else 4 := by
  rw [dom_not_bel (n := max v.length w.length) hw (by omega), dom_not_bel (n := max v.length w.length) hv (by omega)]
  unfold cmp code
  cases bel v w (max v.length w.length) <;> cases bel w v (max v.length w.length) <;> rfl

/-- The join of the first n counters. -/
def join (v w : List Int) (n : Nat) : List Int := (List.range n).map fun i => if w.getD i 0 ≤ v.getD i 0 then v.getD i 0 else w.getD i 0

theorem join_length (v w : List Int) (n : Nat) : (join v w n).length = n := by simp [join]

theorem join_getD (v w : List Int) (n i : Nat) (hi : i < n) : (join v w n).getD i 0 = if w.getD i 0 ≤ v.getD i 0 then v.getD i 0 else w.getD i 0 := by
  simp only [join, List.getD, List.getElem?_map, List.getElem?_range hi, Option.map_some, Option.getD_some]

theorem join_succ (v w : List Int) (n : Nat) : join v w (n + 1) = join v w n ++ [if w.getD n 0 ≤ v.getD n 0 then v.getD n 0 else w.getD n 0] := by
  simp [join, List.range_succ]

/-- What zzMirror answers. -/
def mirror (c : Int) : Int := if c = 1 then 2 else if c = 2 then 1 else c

theorem cmp_mirror (v w : List Int) : cmp w v = mirror (cmp v w) := by
  unfold cmp code mirror
  rw [Nat.max_comm w.length v.length]
  cases bel v w (max v.length w.length) <;> cases bel w v (max v.length w.length) <;> simp

/-- v against the join: nothing of v is above it; something is below it exactly where v is below w. -/
theorem bel_join (v w : List Int) : bel v (join v w (max v.length w.length)) (max v.length w.length) = bel v w (max v.length w.length) := by
  rw [Bool.eq_iff_iff, bel_true, bel_true]
  constructor
  · rintro ⟨i, hi, h⟩
    rw [join_getD _ _ _ _ hi] at h
    split at h
    · omega
    · exact ⟨i, hi, h⟩
  · rintro ⟨i, hi, h⟩
    refine ⟨i, hi, ?_⟩
    rw [join_getD _ _ _ _ hi, if_neg (by omega)]
    exact h

theorem join_bel (v w : List Int) : bel (join v w (max v.length w.length)) v (max v.length w.length) = false := by
  rw [← Bool.not_eq_true, bel_true]
  rintro ⟨i, hi, h⟩
  rw [join_getD _ _ _ _ hi] at h
  split at h <;> omega

theorem bel_join' (v w : List Int) : bel w (join v w (max v.length w.length)) (max v.length w.length) = bel w v (max v.length w.length) := by
  rw [Bool.eq_iff_iff, bel_true, bel_true]
  constructor
  · rintro ⟨i, hi, h⟩
    rw [join_getD _ _ _ _ hi] at h
    split at h
    · exact ⟨i, hi, h⟩
    · omega
  · rintro ⟨i, hi, h⟩
    refine ⟨i, hi, ?_⟩
    rw [join_getD _ _ _ _ hi, if_pos (by omega)]
    exact h

theorem join_bel' (v w : List Int) : bel (join v w (max v.length w.length)) w (max v.length w.length) = false := by
  rw [← Bool.not_eq_true, bel_true]
  rintro ⟨i, hi, h⟩
  rw [join_getD _ _ _ _ hi] at h
  split at h <;> omega

theorem cmp_join (v w : List Int) : cmp v (join v w (max v.length w.length)) = code (bel v w (max v.length w.length)) false := by
  unfold cmp
  rw [join_length, Nat.max_eq_right (Nat.le_max_left _ _), bel_join, join_bel]

theorem cmp_join' (v w : List Int) : cmp w (join v w (max v.length w.length)) = code (bel w v (max v.length w.length)) false := by
  unfold cmp
  rw [join_length, Nat.max_eq_right (Nat.le_max_right _ _), bel_join', join_bel']

end Go.Proofs.Qxb6628659a.Plain
