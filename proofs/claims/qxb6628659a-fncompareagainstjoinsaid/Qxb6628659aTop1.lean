/-
  SEAT b6628659a: the walk of FnCompareMatchesDominance.
-/
import Derived.Test.Qxb6628659aCopy
namespace Go.Proofs.Qxb6628659a
open Go.ChangeShapes Go.WideShapes Go.ChangeAt Go.RowKit
open Go.Proofs.Qxb6628659a.Plain
set_option linter.unusedVariables false

/-- A slice that came in: it reads as zs; nil only at length 0. -/
structure Came (w : World) (a : Option Addr) (len cap : Nat) (zs : List Int) : Prop where
  reads : Reads w a len zs
  nil : a = none → len = 0 ∧ cap = 0
  max : len ≤ maxLen
  nn : Nn zs

theorem top1_long (a0 : Option Addr) (len0 cap0 : Nat) (a1 : Option Addr) (len1 cap1 : Nat) (w : World) (b0 : len0 ≤ maxLen) (b1 : len1 ≤ maxLen) (h : 65536 < len0 ∨ 65536 < len1) :
    Calls Try.prog 3 #[.slice a0 len0 cap0, .slice a1 len1 cap1] w fun e w' => e = .returned (.bool true) ∧ Below w.heap.size w w' := by
  generalize hg : (decide (len0 ≤ 1048576) && decide (len1 ≤ 1048576) && decide (len0 + len1 ≤ 1048576)) = g
  have c5 := bytes5_any a0 len0 cap0 a1 len1 cap1 w b0 b1
  rw [hg] at c5
  clear hg
  have H5 := c5
  clear c5
  unfold maxLen at b0 b1
  cases g
  · go_enter Try.func3, Try.ntmps3
    go_wp2_with (go_at_call 5; refine H5.mono ?_; rintro e w' ⟨rfl, rfl⟩)
    go_ret
    exact ⟨rfl, Below.refl _ _⟩
  · by_cases h0 : len0 ≤ 65536
    · have h1 : 65536 < len1 := by omega
      go_enter Try.func3, Try.ntmps3
      go_wp2_with (go_at_call 5; refine H5.mono ?_; rintro e w' ⟨rfl, rfl⟩)
      go_ret
      exact ⟨rfl, Below.refl _ _⟩
    · go_enter Try.func3, Try.ntmps3
      go_wp2_with (go_at_call 5; refine H5.mono ?_; rintro e w' ⟨rfl, rfl⟩)
      go_ret
      exact ⟨rfl, Below.refl _ _⟩

set_option maxHeartbeats 1000000 in
theorem top1_short (a0 : Option Addr) (len0 cap0 : Nat) (v : List Int) (a1 : Option Addr) (len1 cap1 : Nat) (u : List Int) (w : World) (k0 : Came w a0 len0 cap0 v) (k1 : Came w a1 len1 cap1 u) (b0 : len0 ≤ 65536) (b1 : len1 ≤ 65536) :
    Calls Try.prog 3 #[.slice a0 len0 cap0, .slice a1 len1 cap1] w fun e w' => e = .returned (.bool true) ∧ Below w.heap.size w w' := by
  have c5 := bytes5_any a0 len0 cap0 a1 len1 cap1 w k0.max k1.max
  have e5 : (decide (len0 ≤ 1048576) && decide (len1 ≤ 1048576) && decide (len0 + len1 ≤ 1048576)) = true := by simp; omega
  rw [e5] at c5
  clear e5
  obtain ⟨i27, hi, hz0, hz1, hz2⟩ := info_parts Try.info27
  have n1 := fun wx a n c => run_neq_slice_nil_any (P := Try.prog) wx 22 27 a n c 0 0 Try.underlying22
  go_enter Try.func3, Try.ntmps3
  go_upto_if 22 with (go_at_call 5; refine c5.mono ?_; rintro e w' ⟨rfl, hw⟩; obtain rfl := hw.symm)
  go_cut [0] (fun s wx => ∃ a c, s = .slice a len0 c ∧ Reads wx a len0 v ∧ Below w.heap.size w wx)
  case first =>
    cases ha : a0 with
    | none =>
      subst ha
      obtain ⟨rfl, rfl⟩ := k0.nil rfl
      go_wp2
      go_meet
      case rel => exact ⟨_, _, rfl, k0.reads, Below.refl _ _⟩
    | some ad =>
      subst ha
      have hr := k0.reads
      go_wp2_with (first
        | (at_make; refine wpList_make_full _ rfl _ _ 22 rfl w.heap.size 27 i27 (.int .u64 0) 1 Try.underlying22 hi hz0 hz1 _ _ _ _ len0 rfl rfl rfl rfl (by rw [hz2]; omega) (by unfold maxLen; omega) (Nat.le_refl _) ?_; intro w1 hown hgrow)
        | (refine wpList_copy_reads rfl (.tmp 26) (.tmp 27) rfl w.heap.size len0 cap0 (some ad) rfl rfl _ w.heap.size w hown v (hr.below ((Below.refl _ _).grown hgrow (Nat.le_refl _) (by simp))) ((Below.refl _ _).grown hgrow (Nat.le_refl _) (by simp)) ?_; intro w2 hr2 hb2))
      go_meet
      case rel => exact ⟨_, _, rfl, hr2, hb2⟩
  case rest =>
    obtain ⟨c0, cc0, rfl, hR0, hB⟩ := hcut
    have hR1 : Reads wc a1 len1 u := k1.reads.below hB
    have hsz := hB.size
    clear c5
    go_upto_if 31 with fail
    go_cut [1] (fun s wx => ∃ a c, s = .slice a len1 c ∧ Reads wx a len1 u ∧ Below wc.heap.size wc wx)
    case first =>
      cases ha : a1 with
      | none =>
        subst ha
        obtain ⟨rfl, rfl⟩ := k1.nil rfl
        go_wp2
        go_meet
        case rel => exact ⟨_, _, rfl, hR1, Below.refl _ _⟩
      | some ad =>
        subst ha
        go_wp2_with (first
          | (at_make; refine wpList_make_full _ rfl _ _ 22 rfl wc.heap.size 27 i27 (.int .u64 0) 1 Try.underlying22 hi hz0 hz1 _ _ _ _ len1 rfl rfl rfl rfl (by rw [hz2]; omega) (by unfold maxLen; omega) (Nat.le_refl _) ?_; intro w1 hown hgrow)
          | (refine wpList_copy_reads rfl (.tmp 35) (.tmp 36) rfl wc.heap.size len1 cap1 (some ad) rfl rfl _ wc.heap.size wc hown u (hR1.below ((Below.refl _ _).grown hgrow (Nat.le_refl _) (by simp))) ((Below.refl _ _).grown hgrow (Nat.le_refl _) (by simp)) ?_; intro w2 hr2 hb2))
        go_meet
        case rel => exact ⟨_, _, rfl, hr2, hb2⟩
    case rest =>
      obtain ⟨c1, cc1, rfl, hS1, hB1⟩ := hcut
      have hS0 : Reads wc c0 len0 v := hR0.below hB1
      have hB2 : Below w.heap.size w wc := hB.trans (hB1.mono hsz)
      have nv := k0.nn
      have nu := k1.nn
      have HE : Hid (cmp v u = if dom v u v.length && dom u v u.length then 3 else if dom v u v.length then 1 else if dom u v u.length then 2 else 4) := dominance nv nu
      have q6 := compare_any c0 len0 cc0 v c1 len1 cc1 u wc hS0 hS1 b0 b1
      have q7 := dominated_any c0 len0 cc0 v c1 len1 cc1 u wc hS0 hS1 b0 b1 nv
      have q7' := fun n => dominated_any c1 len1 cc1 u c0 len0 cc0 v (wc.drewN n) (hS1.drewN n) (hS0.drewN n) b1 b0 nu
      generalize dom v u v.length = p at HE q7
      generalize dom u v u.length = q at HE q7'
      generalize cmp v u = r at HE q6
      clear hR0 hR1 hS0 hS1 nv nu k0 k1 n1
      go_wp2_with fail
      refine q6.mono ?_
      rintro e w' ⟨rfl, hw⟩
      obtain rfl := hw.symm
      go_wp2_with fail
      refine q7.mono ?_
      rintro e w' ⟨rfl, n7, rfl⟩
      go_wp2_with fail
      refine (q7' n7).mono ?_
      rintro e w' ⟨rfl, n8, rfl⟩
      have HF : Below w.heap.size w (wc.drewN (n7 + n8)) := below_drewN hB2 _
      clear q6 q7 q7'
      cases p <;> cases q
      all_goals
        obtain rfl := HE.out
        go_wp2
        go_ret
        exact ⟨rfl, HF⟩

end Go.Proofs.Qxb6628659a
