/-
  SEAT b6628696a: the walk of FnCoversWidenedScope, inside its bounds.
-/
import Derived.Test.Qxb6628696aTop2
namespace Go.Proofs.Qxb6628696a
open Go.ChangeShapes Go.WideShapes Go.ChangeAt Go.RowKit
open Go.Proofs.Qxb6628696a.Plain
set_option linter.unusedVariables false

set_option maxRecDepth 100000 in
set_option maxHeartbeats 2000000 in
theorem top2_in (a0 : Option Addr) (len0 cap0 : Nat) (s : List ByteArray) (a1 : Option Addr) (len1 cap1 : Nat) (e : List ByteArray) (a2 : Option Addr) (len2 cap2 : Nat) (o : List ByteArray) (w : World) (k0 : Came w a0 len0 cap0 s) (k1 : Came w a1 len1 cap1 e) (k2 : Came w a2 len2 cap2 o)
    (b0 : len0 ≤ 4096) (b1 : len1 ≤ 4096) (b2 : len2 ≤ 4096) :
    Calls Try.prog 4 #[.slice a0 len0 cap0, .slice a1 len1 cap1, .slice a2 len2 cap2] w fun e w' => e = .returned (.bool true) ∧ Below w.heap.size w w' := by
  have m0 : len0 ≤ maxLen := Nat.le_trans k0.lc k0.max
  have m1 : len1 ≤ maxLen := Nat.le_trans k1.lc k1.max
  have m2 : len2 ≤ maxLen := Nat.le_trans k2.lc k2.max
  have c8 := bytes8_any a0 len0 cap0 s a1 len1 cap1 e a2 len2 cap2 o w k0.reads k1.reads k2.reads m0 m1 m2
  have c6 := fun t => addBytes_any t a0 len0 cap0 s w k0.reads m0
  have c6' := fun t => addBytes_any t a1 len1 cap1 e w k1.reads m1
  have c6'' := fun t => addBytes_any t a2 len2 cap2 o w k2.reads m2
  have n1 := fun wx a n c => run_neq_slice_nil_any (P := Try.prog) wx 22 9 a n c 0 0 Try.underlying22
  have n2 := fun wx a n c => Lib.run_eql_slice_nil (P := Try.prog) wx 22 9 a n c 0 0 Try.underlying22
  obtain ⟨i9, hi, hz0, hz1, hz2⟩ := info_parts Try.info9
  go_enter Try.func4, Try.ntmps4
  go_wp2_with fail
  refine c8.mono ?_
  rintro e w' ⟨⟨b, rfl⟩, hw⟩
  obtain rfl := hw.symm
  cases b
  · clear c8 c6 c6' c6''
    go_wp2
    go_ret
    exact ⟨rfl, Below.refl _ _⟩
  · go_wp2_with fail
    refine (c6 _).mono ?_
    rintro _ w' ⟨⟨n, rfl⟩, hw⟩
    obtain rfl := hw.symm
    go_wp2_with fail
    refine (c6' _).mono ?_
    rintro _ w' ⟨⟨n', rfl⟩, hw⟩
    obtain rfl := hw.symm
    go_wp2_with fail
    refine (c6'' _).mono ?_
    rintro _ w' ⟨⟨n'', rfl⟩, hw⟩
    obtain rfl := hw.symm
    clear c8 c6 c6' c6''
    by_cases hn : 1048576 < n''
    · go_wp2
      go_ret
      exact ⟨rfl, Below.refl _ _⟩
    · go_wp2_with (at_make; refine wpList_make_full _ rfl _ _ 22 rfl w.heap.size 9 i9 (.string ⟨#[]⟩) 1 Try.underlying22 hi hz0 hz1 _ _ _ _ (len0 + len1) rfl rfl (by omega) (by omega) (by rw [hz2]; omega) (by unfold maxLen; omega) (Nat.le_refl _) ?_; intro w1 hown hgrow)
      have hbw : Below w.heap.size w w1 := (Below.refl _ _).grown hgrow (Nat.le_refl _) (by simp)
      obtain ⟨l, hl⟩ : ∃ l, l = s ++ e := ⟨_, rfl⟩
      have HL : Hid (l = s ++ e) := hl
      have HLL : Hid (l.length = len0 + len1) := by show l.length = _; rw [hl, List.length_append, k0.reads.1, k1.reads.1]
      rw [← rowS_zero l (len0 + len1)] at hown
      clear hgrow hl
      go_loopw [8] (fun i wr => ∃ k : Nat, k ≤ len0 ∧ i = .int .i64 k ∧ wr.ownsRow w.heap.size 9 1 (.slice (some ⟨w.heap.size, 0, none⟩) (len0 + len1) (len0 + len1)) (len0 + len1) (rowS l (len0 + len1) k) ∧ Below w.heap.size w wr) (fun i _ => len0 - (intOf i).toNat)
      case atStart => exact ⟨0, Nat.zero_le _, rfl, hown, hbw⟩
      case round =>
        obtain ⟨k, hk, rfl, hown', hbr⟩ := hrel
        clear hown hbw
        by_cases hkn : k < len0
        · obtain ⟨b, off, rfl, hc⟩ := (k0.reads.below hbr).2 (by omega)
          have hck := hc k hkn
          have hx : s.getD k ByteArray.empty = l.getD k ByteArray.empty := by
            rw [HL.out]
            have hks : k < s.length := by rw [k0.reads.1]; exact hkn
            simp only [List.getD, List.getElem?_append_left hks]
          have hat := hown'.cellAt k (by omega)
          rw [rowS_at l _ k HLL.out (by omega)] at hat
          have hfr := hown'.frozenAt k
          have HH : Hid ((wr.setCell ⟨w.heap.size, k, none⟩ (.string (s.getD k ByteArray.empty))).ownsRow w.heap.size 9 1 (.slice (some ⟨w.heap.size, 0, none⟩) (len0 + len1) (len0 + len1)) (len0 + len1) (rowS l (len0 + len1) (k + 1)) ∧ Below w.heap.size w (wr.setCell ⟨w.heap.size, k, none⟩ (.string (s.getD k ByteArray.empty)))) := by
            have := hown'.stored k (.string (s.getD k ByteArray.empty))
            rw [rowS_set l _ k HLL.out (by omega) _ hx] at this
            exact ⟨this.1, hbr.setCell (Nat.le_refl _) _⟩
          clear hown' hbr hc hx k0 k1 k2 n1 n2
          generalize s.getD k ByteArray.empty = x at hck HH
          go_wp2
          go_roundw
          case rel => exact ⟨k + 1, by omega, by go_num, HH.out⟩
          case measure => simp [intOf]; omega
        · obtain rfl : k = len0 := by omega
          go_wp2
          go_loopw [9] (fun i wx => ∃ j : Nat, j ≤ len1 ∧ i = .int .i64 j ∧ wx.ownsRow w.heap.size 9 1 (.slice (some ⟨w.heap.size, 0, none⟩) (k + len1) (k + len1)) (k + len1) (rowS l (k + len1) (k + j)) ∧ Below w.heap.size w wx) (fun i _ => len1 - (intOf i).toNat)
          case atStart => exact ⟨0, Nat.zero_le _, rfl, hown', hbr⟩
          case round =>
            obtain ⟨j, hj, rfl, hown2, hbr2⟩ := hrel
            clear hown' hbr
            by_cases hjn : j < len1
            · obtain ⟨b, off, rfl, hc⟩ := (k1.reads.below hbr2).2 (by omega)
              have hck := hc j hjn
              have hx : e.getD j ByteArray.empty = l.getD (k + j) ByteArray.empty := by
                rw [HL.out]
                have hks : s.length ≤ k + j := by rw [k0.reads.1]; omega
                simp only [List.getD, List.getElem?_append_right hks, k0.reads.1, Nat.add_sub_cancel_left]
              have hat := hown2.cellAt (k + j) (by omega)
              rw [rowS_at l _ (k + j) HLL.out (by omega)] at hat
              have hfr := hown2.frozenAt (k + j)
              have hti : ((k : Int) + (j : Int)).toNat = k + j := by omega
              have HH : Hid ((wr.setCell ⟨w.heap.size, k + j, none⟩ (.string (e.getD j ByteArray.empty))).ownsRow w.heap.size 9 1 (.slice (some ⟨w.heap.size, 0, none⟩) (k + len1) (k + len1)) (k + len1) (rowS l (k + len1) (k + (j + 1))) ∧ Below w.heap.size w (wr.setCell ⟨w.heap.size, k + j, none⟩ (.string (e.getD j ByteArray.empty)))) := by
                have := hown2.stored (k + j) (.string (e.getD j ByteArray.empty))
                rw [rowS_set l _ (k + j) HLL.out (by omega) _ hx] at this
                exact ⟨this.1, hbr2.setCell (Nat.le_refl _) _⟩
              clear hown2 hbr2 hc hx k0 k1 k2 n1 n2
              generalize e.getD j ByteArray.empty = x at hck HH
              go_wp2
              go_roundw
              case rel => exact ⟨j + 1, by omega, by go_num, HH.out⟩
              case measure => simp [intOf]; omega
            · obtain rfl : j = len1 := by omega
              rw [rowS_all l _ HLL.out] at hown2
              have hJ := reads_own hown2
              clear hown2
              have r0 := k0.reads.below hbr2
              have r1 := k1.reads.below hbr2
              have r2 := k2.reads.below hbr2
              have NL1 : Hid (a1 = none → e = []) := fun h => List.eq_nil_of_length_eq_zero (by rw [k1.reads.1]; exact (k1.nil h).1)
              have mJ : k + j ≤ maxLen := by unfold maxLen; omega
              clear k0 k1 k2
              have hb2 : Below wr.heap.size wr ((wr.alloc (.cells #[.slice a0 k cap0] 26)).alloc (.cells #[.slice (some ⟨w.heap.size, 0, none⟩) (k + j) (k + j)] 26)) := ((Below.refl _ _).alloc (Nat.le_refl _) _).alloc (by simp) _
              have q1 := covers_any (some ⟨w.heap.size, 0, none⟩) (k + j) (k + j) l a0 k cap0 s _ (hJ.below hb2) (r0.below hb2) mJ m0
              have e1 : covers (some (⟨w.heap.size, 0, none⟩ : Addr)).isNone l a0.isNone s = !a0.isNone := by
                rw [HL.out]
                cases a0 <;> simp [covers, miss_wide_self]
              rw [e1] at q1
              clear e1
              go_wp2_with fail
              refine q1.mono ?_
              rintro _ w3 ⟨rfl, hb3⟩
              have hc1 : w3.cell? ⟨wr.heap.size, 0, none⟩ = some (.slice a0 k cap0) := cell_later hb3 (first_of_two _ _ _ _)
              have hc2 : w3.cell? ⟨wr.heap.size + 1, 0, none⟩ = some (.slice (some ⟨w.heap.size, 0, none⟩) (k + j) (k + j)) := cell_later hb3 (second_of_two _ _ _ _)
              have hB3 : Below wr.heap.size wr w3 := hb2.trans (hb3.mono hb2.size)
              clear q1 hb2 hb3
              have ha3 : Below w3.heap.size w3 (w3.alloc (.cells #[.slice a2 len2 cap2] 26)) := (Below.refl _ _).alloc (Nat.le_refl _) _
              have t4 : Tail wr (w3.alloc (.cells #[.slice a2 len2 cap2] 26)) (.slice a0 k cap0) (.slice (some ⟨w.heap.size, 0, none⟩) (k + j) (k + j)) (.slice a2 len2 cap2) w3.heap.size :=
                ⟨cell_later ha3 hc1, cell_later ha3 hc2, new_cell _ _ _, hB3.trans (ha3.mono hB3.size)⟩
              have hFin : ∀ x, Below wr.heap.size wr x → Below w.heap.size w x := fun x hx => hbr2.trans (hx.mono hbr2.size)
              have HF : Hid (∀ x, Below wr.heap.size wr x → Below w.heap.size w x) := hFin
              clear hFin hbr2
              have Q : ∀ x, Below wr.heap.size wr x → Calls Try.prog 7 #[.agg #[.slice a0 k cap0], .agg #[.slice (some ⟨w.heap.size, 0, none⟩) (k + j) (k + j)]] x fun e' w' => e' = .returned (.bool (covers a0.isNone s false l)) ∧ Below x.heap.size x w' :=
                fun x hx => covers_any a0 k cap0 s (some ⟨w.heap.size, 0, none⟩) (k + j) (k + j) l x (r0.below hx) (hJ.below hx) m0 mJ
              have Q1 : ∀ x, Below wr.heap.size wr x → Calls Try.prog 7 #[.agg #[.slice a0 k cap0], .agg #[.slice a2 len2 cap2]] x fun e' w' => e' = .returned (.bool (covers a0.isNone s a2.isNone o)) ∧ Below x.heap.size x w' :=
                fun x hx => covers_any a0 k cap0 s a2 len2 cap2 o x (r0.below hx) (r2.below hx) m0 m2
              have Q2 : ∀ x, Below wr.heap.size wr x → Calls Try.prog 7 #[.agg #[.slice (some ⟨w.heap.size, 0, none⟩) (k + j) (k + j)], .agg #[.slice a2 len2 cap2]] x fun e' w' => e' = .returned (.bool (covers false l a2.isNone o)) ∧ Below x.heap.size x w' :=
                fun x hx => covers_any (some ⟨w.heap.size, 0, none⟩) (k + j) (k + j) l a2 len2 cap2 o x (hJ.below hx) (r2.below hx) mJ m2
              have Q3 : ∀ x, Below wr.heap.size wr x → Calls Try.prog 7 #[.agg #[.slice a0 k cap0], .agg #[.slice a1 j cap1]] x fun e' w' => e' = .returned (.bool (covers a0.isNone s a1.isNone e)) ∧ Below x.heap.size x w' :=
                fun x hx => covers_any a0 k cap0 s a1 j cap1 e x (r0.below hx) (r1.below hx) m0 m1
              clear hJ r0 r1 r2
              have h1 := t4.c1
              have h2 := t4.c2
              have h3 := t4.c3
              clear hc1 hc2 ha3 hB3
              cases a0 with
              | none =>
                have q9 := Q _ t4.bw
                have hB4 := t4.bw
                have e9 : covers (none : Option Addr).isNone s false l = true := rfl
                rw [e9] at q9
                clear Q Q1 Q2 Q3 t4 e9
                go_wp2_with fail
                refine q9.mono ?_
                rintro _ w5 ⟨rfl, hb5⟩
                have hF := HF.out _ (hB4.trans (hb5.mono hB4.size))
                clear q9 hb5 hB4 h1 h2 h3
                go_wp2
                go_ret
                exact ⟨rfl, hF⟩
              | some ad0 =>
                have q5 := Q1 _ t4.bw
                have HV : Hid (covers (some ad0).isNone s a2.isNone o = true → covers false l a2.isNone o = true) := by
                  show _ → _
                  rw [HL.out]
                  intro h
                  cases a2 <;> simp [covers] at h ⊢
                  exact miss_wide h
                have HW : Hid (covers (some ad0).isNone s false l = (a1.isNone || covers (some ad0).isNone s a1.isNone e)) := by
                  show _ = _
                  rw [HL.out]
                  cases ha : a1 with
                  | none => rw [NL1.out ha, List.append_nil]; simp [covers, miss_self]
                  | some ad1 => simp [covers, miss_append, miss_self]
                clear NL1
                generalize covers (some ad0).isNone s a2.isNone o = v1 at q5 HV
                generalize covers false l a2.isNone o = v2 at Q2 HV
                generalize covers (some ad0).isNone s false l = v4 at Q HW
                generalize covers (some ad0).isNone s a1.isNone e = v3 at Q3 HW
                clear Q1
                go_wp2_with fail
                refine q5.mono ?_
                rintro _ w5 ⟨rfl, hb5⟩
                have t5 := t4.later hb5
                clear q5 hb5 t4 h1 h2 h3
                have h1 := t5.c1
                have h2 := t5.c2
                have h3 := t5.c3
                cases v1
                · clear HV Q2
                  cases a1 with
                  | none =>
                    have q9 := Q _ t5.bw
                    have hB4 := t5.bw
                    obtain rfl : v4 = true := by have := HW.out; simpa using this
                    clear Q Q3 t5
                    go_wp2_with fail
                    refine q9.mono ?_
                    rintro _ w7 ⟨rfl, hb7⟩
                    have hF := HF.out _ (hB4.trans (hb7.mono hB4.size))
                    clear q9 hb7 hB4 h1 h2 h3
                    go_wp2
                    go_ret
                    exact ⟨rfl, hF⟩
                  | some ad1 =>
                    have q8 := Q3 _ t5.bw
                    go_wp2_with fail
                    refine q8.mono ?_
                    rintro _ w7 ⟨rfl, hb7⟩
                    have t7 := t5.later hb7
                    clear q8 hb7 t5 h1 h2 h3
                    have h1 := t7.c1
                    have h2 := t7.c2
                    have q9 := Q _ t7.bw
                    have hB4 := t7.bw
                    obtain rfl : v4 = v3 := by have := HW.out; simpa using this
                    clear Q Q3 t7 HW
                    go_wp2_with fail
                    refine q9.mono ?_
                    rintro _ w8 ⟨rfl, hb8⟩
                    have hF := HF.out _ (hB4.trans (hb8.mono hB4.size))
                    clear q9 hb8 hB4 h1 h2
                    cases v4
                    all_goals
                      go_wp2
                      go_ret
                      exact ⟨rfl, hF⟩
                · obtain rfl := HV.out rfl
                  have q6 := Q2 _ t5.bw
                  go_wp2_with fail
                  refine q6.mono ?_
                  rintro _ w6 ⟨rfl, hb6⟩
                  have t6 := t5.later hb6
                  clear q6 hb6 t5 h1 h2 h3
                  have h1 := t6.c1
                  have h2 := t6.c2
                  have h3 := t6.c3
                  clear HV Q2
                  cases a1 with
                  | none =>
                    have q9 := Q _ t6.bw
                    have hB4 := t6.bw
                    obtain rfl : v4 = true := by have := HW.out; simpa using this
                    clear Q Q3 t6
                    go_wp2_with fail
                    refine q9.mono ?_
                    rintro _ w7 ⟨rfl, hb7⟩
                    have hF := HF.out _ (hB4.trans (hb7.mono hB4.size))
                    clear q9 hb7 hB4 h1 h2 h3
                    go_wp2
                    go_ret
                    exact ⟨rfl, hF⟩
                  | some ad1 =>
                    have q8 := Q3 _ t6.bw
                    go_wp2_with fail
                    refine q8.mono ?_
                    rintro _ w7 ⟨rfl, hb7⟩
                    have t7 := t6.later hb7
                    clear q8 hb7 t6 h1 h2 h3
                    have h1 := t7.c1
                    have h2 := t7.c2
                    have q9 := Q _ t7.bw
                    have hB4 := t7.bw
                    obtain rfl : v4 = v3 := by have := HW.out; simpa using this
                    clear Q Q3 t7 HW
                    go_wp2_with fail
                    refine q9.mono ?_
                    rintro _ w8 ⟨rfl, hb8⟩
                    have hF := HF.out _ (hB4.trans (hb8.mono hB4.size))
                    clear q9 hb8 hB4 h1 h2
                    cases v4
                    all_goals
                      go_wp2
                      go_ret
                      exact ⟨rfl, hF⟩

end Go.Proofs.Qxb6628696a
