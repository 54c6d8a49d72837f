/-
  SEAT b6628659a: the walk of FnCompareAgainstJoin.
-/
import Derived.Test.Qxb6628659aTop1
namespace Go.Proofs.Qxb6628659a
open Go.ChangeShapes Go.WideShapes Go.ChangeAt Go.RowKit
open Go.Proofs.Qxb6628659a.Plain
set_option linter.unusedVariables false

/-- The join's row when its first k places have been filled. -/
def rowK (v u : List Int) (n k : Nat) : List Value := (join v u k ++ List.replicate (n - k) 0).map (Value.int .u64)

theorem rowK_length (v u : List Int) (n k : Nat) (h : k ≤ n) : (rowK v u n k).length = n := by simp [rowK, join_length]; omega

theorem rowK_zero (v u : List Int) (n : Nat) : rowK v u n 0 = (madeCells (Value.int .u64 0).cells (n * 1)).toList := by
  apply List.ext_getElem?
  intro i
  simp only [rowK, join, madeCells, Value.cells, List.range_zero, List.map_nil, List.nil_append, Nat.sub_zero, Nat.mul_one, List.map_replicate]
  by_cases hi : i < n
  · simp [hi, Nat.mod_one]
  · simp [hi]

theorem rowK_at (v u : List Int) (n k : Nat) (h : k < n) : (rowK v u n k)[k]? = some (.int .u64 0) := by
  have e : (join v u k).length = k := join_length v u k
  simp only [rowK, List.getElem?_map]
  obtain ⟨m, hm⟩ : ∃ m, n - k = m + 1 := ⟨n - k - 1, by omega⟩
  rw [List.getElem?_append_right (by omega), e, Nat.sub_self, hm, List.replicate_succ]
  rfl

theorem rowK_set (v u : List Int) (n k : Nat) (h : k < n) (x : Int) (hx : x = if u.getD k 0 ≤ v.getD k 0 then v.getD k 0 else u.getD k 0) : (rowK v u n k).set k (.int .u64 x) = rowK v u n (k + 1) := by
  have e : (join v u k).length = k := join_length v u k
  obtain ⟨m, hm⟩ : ∃ m, n - k = m + 1 := ⟨n - k - 1, by omega⟩
  have hm2 : n - (k + 1) = m := by omega
  simp only [rowK, join_succ, hm, hm2, List.replicate_succ, ← hx]
  rw [← List.map_set, List.set_append_right _ _ (by omega), e]
  simp

theorem rowK_all (v u : List Int) (n : Nat) : rowK v u n n = (join v u n).map (Value.int .u64) := by simp [rowK]

theorem top2_long (a0 : Option Addr) (len0 cap0 : Nat) (a1 : Option Addr) (len1 cap1 : Nat) (w : World) (b0 : len0 ≤ maxLen) (b1 : len1 ≤ maxLen) (h : 65536 < len0 ∨ 65536 < len1) :
    Calls Try.prog 4 #[.slice a0 len0 cap0, .slice a1 len1 cap1] w fun e w' => e = .returned (.bool true) ∧ Below w.heap.size w w' := by
  generalize hg : (decide (len0 ≤ 1048576) && decide (len1 ≤ 1048576) && decide (len0 + len1 ≤ 1048576)) = g
  have c5 := bytes8_any a0 len0 cap0 a1 len1 cap1 w b0 b1
  rw [hg] at c5
  clear hg
  have H5 := c5
  clear c5
  unfold maxLen at b0 b1
  cases g
  · go_enter Try.func4, Try.ntmps4
    go_wp2_with (go_at_call 8; refine H5.mono ?_; rintro e w' ⟨rfl, rfl⟩)
    go_ret
    exact ⟨rfl, Below.refl _ _⟩
  · by_cases h0 : len0 ≤ 65536
    · have h1 : 65536 < len1 := by omega
      go_enter Try.func4, Try.ntmps4
      go_wp2_with (go_at_call 8; refine H5.mono ?_; rintro e w' ⟨rfl, rfl⟩)
      go_ret
      exact ⟨rfl, Below.refl _ _⟩
    · go_enter Try.func4, Try.ntmps4
      go_wp2_with (go_at_call 8; refine H5.mono ?_; rintro e w' ⟨rfl, rfl⟩)
      go_ret
      exact ⟨rfl, Below.refl _ _⟩

set_option maxRecDepth 100000 in
set_option maxHeartbeats 1000000 in
theorem top2_short (a0 : Option Addr) (len0 cap0 : Nat) (v : List Int) (a1 : Option Addr) (len1 cap1 : Nat) (u : List Int) (w : World) (k0 : Came w a0 len0 cap0 v) (k1 : Came w a1 len1 cap1 u) (b0 : len0 ≤ 65536) (b1 : len1 ≤ 65536) :
    Calls Try.prog 4 #[.slice a0 len0 cap0, .slice a1 len1 cap1] w fun e w' => e = .returned (.bool true) ∧ Below w.heap.size w w' := by
  have c5 := bytes8_any a0 len0 cap0 a1 len1 cap1 w k0.max k1.max
  have e5 : (decide (len0 ≤ 1048576) && decide (len1 ≤ 1048576) && decide (len0 + len1 ≤ 1048576)) = true := by simp; omega
  rw [e5] at c5
  clear e5
  obtain ⟨i27, hi, hz0, hz1, hz2⟩ := info_parts Try.info27
  have n1 := fun wx a n c => run_neq_slice_nil_any (P := Try.prog) wx 22 27 a n c 0 0 Try.underlying22
  go_enter Try.func4, Try.ntmps4
  go_upto_if 27 with (go_at_call 8; refine c5.mono ?_; rintro e w' ⟨rfl, hw⟩; obtain rfl := hw.symm)
  go_cut [0] (fun s wx => ∃ a c, s = .slice a len0 c ∧ Reads wx a len0 v ∧ Below w.heap.size w wx)
  case first =>
    cases ha : a0 with
    | none =>
      subst ha
      obtain ⟨rfl, rfl⟩ := k0.nil rfl
      go_wp2
      go_meet
      case rel => exact ⟨_, _, rfl, k0.reads, Below.refl _ _⟩
    | some ad =>
      subst ha
      have hr := k0.reads
      go_wp2_with (first
        | (at_make; refine wpList_make_full _ rfl _ _ 22 rfl w.heap.size 27 i27 (.int .u64 0) 1 Try.underlying22 hi hz0 hz1 _ _ _ _ len0 rfl rfl rfl rfl (by rw [hz2]; omega) (by unfold maxLen; omega) (Nat.le_refl _) ?_; intro w1 hown hgrow)
        | (refine wpList_copy_reads rfl (.tmp 31) (.tmp 32) rfl w.heap.size len0 cap0 (some ad) rfl rfl _ w.heap.size w hown v (hr.below ((Below.refl _ _).grown hgrow (Nat.le_refl _) (by simp))) ((Below.refl _ _).grown hgrow (Nat.le_refl _) (by simp)) ?_; intro w2 hr2 hb2))
      go_meet
      case rel => exact ⟨_, _, rfl, hr2, hb2⟩
  case rest =>
    obtain ⟨c0, cc0, rfl, hR0, hB⟩ := hcut
    have hR1 : Reads wc a1 len1 u := k1.reads.below hB
    have hsz := hB.size
    clear c5
    go_upto_if 36 with fail
    go_cut [1] (fun s wx => ∃ a c, s = .slice a len1 c ∧ Reads wx a len1 u ∧ Below wc.heap.size wc wx)
    case first =>
      cases ha : a1 with
      | none =>
        subst ha
        obtain ⟨rfl, rfl⟩ := k1.nil rfl
        go_wp2
        go_meet
        case rel => exact ⟨_, _, rfl, hR1, Below.refl _ _⟩
      | some ad =>
        subst ha
        go_wp2_with (first
          | (at_make; refine wpList_make_full _ rfl _ _ 22 rfl wc.heap.size 27 i27 (.int .u64 0) 1 Try.underlying22 hi hz0 hz1 _ _ _ _ len1 rfl rfl rfl rfl (by rw [hz2]; omega) (by unfold maxLen; omega) (Nat.le_refl _) ?_; intro w1 hown hgrow)
          | (refine wpList_copy_reads rfl (.tmp 40) (.tmp 41) rfl wc.heap.size len1 cap1 (some ad) rfl rfl _ wc.heap.size wc hown u (hR1.below ((Below.refl _ _).grown hgrow (Nat.le_refl _) (by simp))) ((Below.refl _ _).grown hgrow (Nat.le_refl _) (by simp)) ?_; intro w2 hr2 hb2))
        go_meet
        case rel => exact ⟨_, _, rfl, hr2, hb2⟩
    case rest =>
      obtain ⟨c1, cc1, rfl, hS1, hB1⟩ := hcut
      have hS0 : Reads wc c0 len0 v := hR0.below hB1
      have hB2 : Below w.heap.size w wc := hB.trans (hB1.mono hsz)
      obtain ⟨n, hn⟩ : ∃ n, n = max len0 len1 := ⟨_, rfl⟩
      have HN : Hid (n = max v.length u.length) := by show n = _; rw [hS0.1, hS1.1]; exact hn
      clear hR0 hR1 n1 k0 k1 hB hB1 hsz
      go_upto_if 49 with fail
      go_cut [7] (fun s wx => s = .int .i64 n ∧ wx = wc)
      case first =>
        by_cases hlt : len0 < len1
        · obtain rfl : n = len1 := by omega
          clear hn
          go_wp2
          go_meet
          case rel => exact ⟨rfl, rfl⟩
        · obtain rfl : n = len0 := by omega
          clear hn
          go_wp2
          go_meet
          case rel => exact ⟨rfl, rfl⟩
      case rest =>
        obtain ⟨rfl, rfl⟩ := hcut
        have hnb : n ≤ 65536 := by omega
        have h0n : len0 ≤ n := by omega
        have h1n : len1 ≤ n := by omega
        have HM : Hid (n ≤ len0 ∨ n ≤ len1) := by show n ≤ len0 ∨ n ≤ len1; omega
        clear hn
        go_wp2_with (at_make; refine wpList_make_full _ rfl _ _ 22 rfl wc.heap.size 27 i27 (.int .u64 0) 1 Try.underlying22 hi hz0 hz1 _ _ _ _ n rfl rfl rfl rfl (by rw [hz2]; omega) (by unfold maxLen; omega) (Nat.le_refl _) ?_; intro w1 hown hgrow)
        have hbw : Below wc.heap.size wc w1 := (Below.refl _ _).grown hgrow (Nat.le_refl _) (by simp)
        rw [← rowK_zero v u n] at hown
        clear hgrow
        go_loopw [9] (fun i wr => ∃ k : Nat, k ≤ n ∧ i = .int .i64 k ∧ wr.ownsRow wc.heap.size 27 1 (.slice (some ⟨wc.heap.size, 0, none⟩) n n) n (rowK v u n k) ∧ Below wc.heap.size wc wr) (fun i _ => n - (intOf i).toNat)
        case atStart => exact ⟨0, Nat.zero_le _, rfl, hown, hbw⟩
        case round =>
          obtain ⟨k, hk, rfl, hown', hbr⟩ := hrel
          clear hown hbw
          have hR0 := hS0.below hbr
          have hR1 := hS1.below hbr
          by_cases hkn : k < n
          · have hat := hown'.cellAt k (by omega)
            rw [rowK_at v u n k hkn] at hat
            have hfr := hown'.frozenAt k
            have hset := fun x hx => rowK_set v u n k hkn x hx
            have HO : ∀ x, (x = if u.getD k 0 ≤ v.getD k 0 then v.getD k 0 else u.getD k 0) → (wr.setCell ⟨wc.heap.size, k, none⟩ (.int .u64 x)).ownsRow wc.heap.size 27 1 (.slice (some ⟨wc.heap.size, 0, none⟩) n n) n (rowK v u n (k + 1)) ∧ Below wc.heap.size wc (wr.setCell ⟨wc.heap.size, k, none⟩ (.int .u64 x)) := by
              intro x hx
              have := hown'.stored k (.int .u64 x)
              rw [hset x hx] at this
              exact ⟨this.1, hbr.setCell (Nat.le_refl _) _⟩
            have HH : Hid (∀ x, (x = if u.getD k 0 ≤ v.getD k 0 then v.getD k 0 else u.getD k 0) → (wr.setCell ⟨wc.heap.size, k, none⟩ (.int .u64 x)).ownsRow wc.heap.size 27 1 (.slice (some ⟨wc.heap.size, 0, none⟩) n n) n (rowK v u n (k + 1)) ∧ Below wc.heap.size wc (wr.setCell ⟨wc.heap.size, k, none⟩ (.int .u64 x))) := HO
            clear HO hset hown' hbr
            have hx : k < len0 → ∃ b off, c0 = some ⟨b, off, none⟩ ∧ wr.cell? ⟨b, off + k, none⟩ = some (.int .u64 (v.getD k 0)) := fun h => by
              obtain ⟨b, off, e, hc⟩ := hR0.2 (by omega)
              exact ⟨b, off, e, hc k h⟩
            have hy : k < len1 → ∃ b off, c1 = some ⟨b, off, none⟩ ∧ wr.cell? ⟨b, off + k, none⟩ = some (.int .u64 (u.getD k 0)) := fun h => by
              obtain ⟨b, off, e, hc⟩ := hR1.2 (by omega)
              exact ⟨b, off, e, hc k h⟩
            have hx' : ¬ k < len0 → v.getD k 0 = 0 := fun h => getD_out _ _ (by rw [hS0.1]; omega)
            have hy' : ¬ k < len1 → u.getD k 0 = 0 := fun h => getD_out _ _ (by rw [hS1.1]; omega)
            clear hS0 hS1 hR0 hR1
            generalize v.getD k 0 = x at HH hx hx'
            generalize u.getD k 0 = y at HH hy hy'
            by_cases q0 : k < len0
            · obtain ⟨ba, oa, rfl, ca⟩ := hx q0
              clear hx hx'
              by_cases q1 : k < len1
              · obtain ⟨bb, ob, rfl, cb⟩ := hy q1
                clear hy hy'
                by_cases q2 : y ≤ x
                all_goals
                  go_wp2
                  go_roundw
                  case rel => exact ⟨k + 1, by omega, by go_num, HH.out _ (by simp [q2])⟩
                  case measure => simp [intOf]; omega
              · obtain rfl := hy' q1
                clear hy hy'
                by_cases q2 : 0 ≤ x
                all_goals
                  go_wp2
                  go_roundw
                  case rel => exact ⟨k + 1, by omega, by go_num, HH.out _ (by simp [q2])⟩
                  case measure => simp [intOf]; omega
            · obtain rfl := hx' q0
              clear hx hx'
              have q1 : k < len1 := by have := HM.out; omega
              obtain ⟨bb, ob, rfl, cb⟩ := hy q1
              clear hy hy'
              by_cases q2 : y ≤ 0
              all_goals
                go_wp2
                go_roundw
                case rel => exact ⟨k + 1, by omega, by go_num, HH.out _ (by simp [q2])⟩
                case measure => simp [intOf]; omega
          · obtain rfl : k = n := by omega
            rw [rowK_all] at hown'
            have hJ := reads_own hown'
            clear hown'
            have hF : Below w.heap.size w wr := hB2.trans (hbr.mono hB2.size)
            have q1 := compare_any c0 len0 cc0 v c1 len1 cc1 u wr hR0 hR1 b0 b1
            have q2 := compare_any c1 len1 cc1 u c0 len0 cc0 v wr hR1 hR0 b1 b0
            have q3 := compare_any c0 len0 cc0 v (some ⟨wc.heap.size, 0, none⟩) k k (join v u k) wr hR0 hJ b0 hnb
            have q4 := compare_any c1 len1 cc1 u (some ⟨wc.heap.size, 0, none⟩) k k (join v u k) wr hR1 hJ b1 hnb
            have e1 : cmp v u = code (bel v u k) (bel u v k) := by rw [HN.out]; rfl
            have e2 : cmp u v = code (bel u v k) (bel v u k) := by rw [HN.out]; unfold cmp; rw [Nat.max_comm u.length]
            have e3 : cmp v (join v u k) = code (bel v u k) false := by rw [HN.out]; exact cmp_join v u
            have e4 : cmp u (join v u k) = code (bel u v k) false := by rw [HN.out]; exact cmp_join' v u
            rw [e1] at q1
            rw [e2] at q2
            rw [e3] at q3
            rw [e4] at q4
            clear e1 e2 e3 e4 hR0 hR1 hJ hS0 hS1 HN HM hbr hB2
            generalize bel v u k = A at q1 q2 q3 q4
            generalize bel u v k = B at q1 q2 q3 q4
            go_wp2_with fail
            refine q1.mono ?_
            rintro e w' ⟨rfl, hw⟩
            obtain rfl := hw.symm
            go_wp2_with fail
            refine q2.mono ?_
            rintro e w' ⟨rfl, hw⟩
            obtain rfl := hw.symm
            go_wp2_with fail
            refine q3.mono ?_
            rintro e w' ⟨rfl, hw⟩
            obtain rfl := hw.symm
            go_wp2_with fail
            refine q4.mono ?_
            rintro e w' ⟨rfl, hw⟩
            obtain rfl := hw.symm
            clear q1 q2 q3 q4
            go_wp2_with fail
            refine (mirror_any _ _).mono ?_
            rintro e w' ⟨rfl, hw⟩
            obtain rfl := hw.symm
            cases A <;> cases B
            all_goals
              simp only [code, mirror, Bool.and_self, Bool.and_false, Bool.and_true, if_true, if_false, Bool.false_eq_true]
              go_wp2
              go_ret
              exact ⟨rfl, hF⟩

end Go.Proofs.Qxb6628659a
