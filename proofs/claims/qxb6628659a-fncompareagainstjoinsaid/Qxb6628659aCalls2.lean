/-
  THE CALLEES' CONTRACTS of seat b6628659a, the second part: zzDominatedBy, the two zzBytes, zzMirror.
-/
import Derived.Test.Qxb6628659aCalls
namespace Go.Proofs.Qxb6628659a
open Go.ChangeShapes Go.WideShapes Go.ChangeAt Go.RowKit
open Go.Proofs.Qxb6628659a.Plain
set_option linter.unusedVariables false

theorem Reads.drewN {w : World} {a : Option Addr} {len : Nat} {zs : List Int} (h : Reads w a len zs) (n : Nat) : Reads (w.drewN n) a len zs := h

theorem dom_stop {a b : List Int} {k : Nat} (hk : k < a.length) (h : b.getD k 0 < a.getD k 0) : dom a b a.length = false := by
  rw [← Bool.not_eq_true, dom_true]
  intro h'
  have := h' k hk
  omega

theorem dominated_any (a0 : Option Addr) (len0 cap0 : Nat) (v : List Int) (a1 : Option Addr) (len1 cap1 : Nat) (u : List Int) (w : World) (h0 : Reads w a0 len0 v) (h1 : Reads w a1 len1 u) (b0 : len0 ≤ 65536) (b1 : len1 ≤ 65536) (hv : Nn v) :
    Calls Try.prog 7 #[.slice a0 len0 cap0, .slice a1 len1 cap1] w fun e w' => e = .returned (.bool (dom v u v.length)) ∧ ∃ n, w' = w.drewN n := by
  go_enter Try.func7, Try.ntmps7
  go_wp2
  go_loopw [5] (fun i wr => ∃ k nq : Nat, k ≤ len0 ∧ i = .int .i64 k ∧ dom v u k = true ∧ wr = w.drewN nq) (fun i _ => len0 - (intOf i).toNat)
  case atStart => exact ⟨0, 0, Nat.zero_le _, rfl, rfl, rfl⟩
  case round =>
    obtain ⟨k, nq, hk, rfl, hd, rfl⟩ := hrel
    have HD : Hid (dom v u k = true) := hd
    clear hd
    have HL : Hid (v.length = len0) := h0.1
    have HL1 : Hid (u.length = len1) := h1.1
    by_cases hk0 : k < len0
    · obtain ⟨bb, off, rfl, hcell⟩ := h0.2 (by omega)
      have hck := (hcell k hk0)
      have hx0 := hv k
      have HS : Hid (dom v u (k + 1) = (dom v u k && decide (v.getD k 0 ≤ u.getD k 0))) := rfl
      have hst := @dom_stop v u k (by rw [HL.out]; exact hk0)
      have HST : Hid (u.getD k 0 < v.getD k 0 → dom v u v.length = false) := hst
      clear hst hcell
      by_cases hk1 : k < len1
      · obtain ⟨bb1, off1, rfl, hcell1⟩ := h1.2 (by omega)
        have hck1 := hcell1 k hk1
        clear hcell1 h0 h1
        generalize v.getD k 0 = x at *
        generalize u.getD k 0 = y at *
        have i0 : (k : Int) < (len0 : Int) := by omega
        have i1 : (k : Int) < (len1 : Int) := by omega
        go_wp2
        go_quiet (fail)
        go_wp2
        · go_ret
          exact ⟨ret_bool (HST.out (by assumption)).symm, _, World.drewN_drewN _ _ _⟩
        · have hxy : x ≤ y := by assumption
          go_roundw
          case rel => exact ⟨k + 1, _, by omega, by go_num, by rw [HS.out, HD.out]; simpa using hxy, rfl⟩
          case measure => simp [intOf]; omega
      · have hy : u.getD k 0 = 0 := getD_out u k (by have := HL1.out; omega)
        rw [hy] at HS HST
        clear h0 h1 hy
        generalize v.getD k 0 = x at *
        have i0 : (k : Int) < (len0 : Int) := by omega
        by_cases hz : x = 0
        · subst hz
          go_wp2
          go_roundw
          case rel => exact ⟨k + 1, _, by omega, by go_num, by rw [HS.out, HD.out]; rfl, rfl⟩
          case measure => simp [intOf]; omega
        · have hz' : (x == 0) = false := by simpa using hz
          have hz'' : (x != 0) = true := by simp [hz]
          go_wp2
          go_ret
          exact ⟨ret_bool (HST.out (by omega)).symm, _, rfl⟩
    · obtain rfl : k = len0 := by omega
      clear h0 h1
      go_wp2
      go_ret
      exact ⟨ret_bool (by rw [HL.out, HD.out]), _, rfl⟩

/-- The two guards on the lengths: two slices of at most 65536 elements each pass them. -/
theorem bytes5_any (a0 : Option Addr) (len0 cap0 : Nat) (a1 : Option Addr) (len1 cap1 : Nat) (w : World) (b0 : len0 ≤ maxLen) (b1 : len1 ≤ maxLen) :
    Calls Try.prog 5 #[.slice a0 len0 cap0, .slice a1 len1 cap1] w fun e w' => e = .returned (.bool (decide (len0 ≤ 1048576) && decide (len1 ≤ 1048576) && decide (len0 + len1 ≤ 1048576))) ∧ w' = w := by
  unfold maxLen at b0 b1
  by_cases c0 : len0 ≤ 1048576
  · by_cases c1 : len1 ≤ 1048576
    · by_cases c2 : len0 + len1 ≤ 1048576
      all_goals
        go_enter Try.func5, Try.ntmps5
        go_wp2
        go_ret
        exact ⟨ret_bool (by simp [*]), rfl⟩
    · go_enter Try.func5, Try.ntmps5
      go_wp2
      go_ret
      exact ⟨ret_bool (by simp [*]), rfl⟩
  · go_enter Try.func5, Try.ntmps5
    go_wp2
    go_ret
    exact ⟨ret_bool (by simp [*]), rfl⟩

theorem bytes8_any (a0 : Option Addr) (len0 cap0 : Nat) (a1 : Option Addr) (len1 cap1 : Nat) (w : World) (b0 : len0 ≤ maxLen) (b1 : len1 ≤ maxLen) :
    Calls Try.prog 8 #[.slice a0 len0 cap0, .slice a1 len1 cap1] w fun e w' => e = .returned (.bool (decide (len0 ≤ 1048576) && decide (len1 ≤ 1048576) && decide (len0 + len1 ≤ 1048576))) ∧ w' = w := by
  unfold maxLen at b0 b1
  by_cases c0 : len0 ≤ 1048576
  · by_cases c1 : len1 ≤ 1048576
    · by_cases c2 : len0 + len1 ≤ 1048576
      all_goals
        go_enter Try.func8, Try.ntmps8
        go_wp2
        go_ret
        exact ⟨ret_bool (by simp [*]), rfl⟩
    · go_enter Try.func8, Try.ntmps8
      go_wp2
      go_ret
      exact ⟨ret_bool (by simp [*]), rfl⟩
  · go_enter Try.func8, Try.ntmps8
    go_wp2
    go_ret
    exact ⟨ret_bool (by simp [*]), rfl⟩

theorem mirror_any (c : Int) (w : World) : Calls Try.prog 9 #[.int .u8 c] w fun e w' => e = .returned (.int .u8 (mirror c)) ∧ w' = w := by
  unfold mirror
  by_cases h1 : c = 1
  · subst h1
    go_enter Try.func9, Try.ntmps9
    go_wp2
    go_ret
    exact ⟨rfl, rfl⟩
  · by_cases h2 : c = 2
    · subst h2
      go_enter Try.func9, Try.ntmps9
      go_wp2
      go_ret
      exact ⟨rfl, rfl⟩
    · rw [if_neg h1, if_neg h2]
      go_enter Try.func9, Try.ntmps9
      go_wp2
      go_ret
      exact ⟨rfl, rfl⟩

end Go.Proofs.Qxb6628659a
