/-
  SEAT b6628767a: the walk of FnIsIDCut.
-/
import Derived.Test.Qxb6628767aCalls
import Derived.Deep.DeepCutAuto
namespace Go.Proofs.Qxb6628767a
open Go.ChangeShapes Go.WideShapes Go.ChangeAt Go.RowKit
open Go.Proofs.Qxb6628767a.Plain
set_option linter.unusedVariables false

theorem Grown.drewN' {W w' : World} (h : Grown W w') (n : Nat) : Grown W (w'.drewN n) := h

theorem bytes_left (s : ByteArray) (i : Nat) : bytesOf (s.extract 0 i) = (bytesOf s).take i := by
  unfold bytesOf
  rw [Lib.extract_data]
  simp

theorem bytes_right (s : ByteArray) (i : Nat) : bytesOf (s.extract i s.size) = (bytesOf s).drop i := by
  unfold bytesOf
  rw [Lib.extract_data, List.take_of_length_le (by rw [List.length_drop]; exact Nat.le_refl _)]

theorem bytes_first (s : ByteArray) (h : 0 < s.size) : isID (bytesOf (s.extract 0 1)) = okI (s[0].toNat : Int) := by
  rw [bytes_left]
  have hl : 0 < (bytesOf s).length := h
  have e : (bytesOf s).take 1 = [s[0]] := by
    rw [List.take_succ_eq_append_getElem hl]
    rfl
  rw [e, one_law]
  rfl

set_option maxHeartbeats 1000000 in
theorem top1_out (s : ByteArray) (i : Int) (w : World) (hs : s.size ≤ maxLen) (h : ¬ (s.size ≤ 65536 ∧ 0 ≤ i ∧ i ≤ s.size)) :
    Calls Try.prog 3 #[.string s, .int .i64 i] w fun e w' => e = .returned (.bool true) ∧ Grown w w' := by
  have c5 := bytes5_any s i w hs
  unfold maxLen at hs
  generalize decide (s.size ≤ 1048576) = b at c5
  cases b
  · clear h
    go_enter Try.func3, Try.ntmps3
    go_wp2_with (go_at_call 5; refine c5.mono ?_; rintro e w' ⟨rfl, rfl⟩)
    go_ret
    exact ⟨rfl, Grown.refl _⟩
  · by_cases h1 : s.size ≤ 65536
    · by_cases h2 : i < 0
      · clear h
        go_enter Try.func3, Try.ntmps3
        go_wp2_with (go_at_call 5; refine c5.mono ?_; rintro e w' ⟨rfl, rfl⟩)
        go_ret
        exact ⟨rfl, Grown.refl _⟩
      · have h3 : (s.size : Int) < i := by omega
        clear h
        go_enter Try.func3, Try.ntmps3
        go_wp2_with (go_at_call 5; refine c5.mono ?_; rintro e w' ⟨rfl, rfl⟩)
        go_ret
        exact ⟨rfl, Grown.refl _⟩
    · clear h
      go_enter Try.func3, Try.ntmps3
      go_wp2_with (go_at_call 5; refine c5.mono ?_; rintro e w' ⟨rfl, rfl⟩)
      go_ret
      exact ⟨rfl, Grown.refl _⟩

set_option maxHeartbeats 2000000 in
theorem top1_in (s : ByteArray) (i : Nat) (w : World) (b0 : s.size ≤ 65536) (hi : i ≤ s.size) :
    Calls Try.prog 3 #[.string s, .int .i64 i] w fun e w' => e = .returned (.bool true) ∧ Grown w w' := by
  have hm : s.size ≤ maxLen := by unfold maxLen; omega
  have c5 := bytes5_any s i w hm
  rw [decide_eq_true (show s.size ≤ 1048576 by omega)] at c5
  have q0 := isID_any s w hm
  have q1 := isID_any (s.extract 0 i) w (by have := ByteArray.size_extract (a := s) (b := 0) (e := i); unfold maxLen; omega)
  have q2 := isID_any (s.extract i s.size) w (by have := ByteArray.size_extract (a := s) (b := i) (e := s.size); unfold maxLen; omega)
  have HC : Hid (isID (bytesOf s) = (decide (1 ≤ s.size ∧ s.size ≤ 32) && (decide (i = 0) || isID (bytesOf (s.extract 0 i))) && (decide (i = s.size) || isID (bytesOf (s.extract i s.size))))) := by
    show _ = _
    have h := cut_law (bytesOf s) i hi
    rw [← bytes_left, ← bytes_right, bytesOf_length] at h
    exact h
  generalize isID (bytesOf s) = W at q0 HC
  generalize isID (bytesOf (s.extract 0 i)) = A at q1 HC
  generalize isID (bytesOf (s.extract i s.size)) = B at q2 HC
  by_cases hz : 1 ≤ s.size
  · have q3 := fun wx => isID_any (s.extract 0 1) wx (by have := ByteArray.size_extract (a := s) (b := 0) (e := 1); unfold maxLen; omega)
    have q7 := fun wx => idByte_any (s[0].toNat : Int) wx (by omega) (by have := s[0].toNat_lt; omega)
    rw [bytes_first s hz] at q3
    generalize okI (s[0].toNat : Int) = X at q3 q7
    have hpos : (0 : Int) < (s.size : Int) := by omega
    have hpos' : 0 < s.size := by omega
    by_cases h32 : s.size ≤ 32
    · by_cases hi0 : i = 0
      · have e0 : ((i : Int) == 0) = true := by simp [hi0]
        have e1 : ((i : Int) == (s.size : Int)) = false := by simp; omega
        obtain rfl : W = B := by
          have := HC.out
          rw [decide_eq_true hi0, decide_eq_false (show ¬ i = s.size by omega), decide_eq_true (show 1 ≤ s.size ∧ s.size ≤ 32 by omega)] at this
          simpa using this
        clear HC hi0
        go_enter Try.func3, Try.ntmps3
        go_wp2_with fail
        refine c5.mono ?_
        rintro _ w' ⟨rfl, hw⟩
        obtain rfl := hw.symm
        go_wp2_with fail
        refine q0.mono ?_
        rintro _ w' ⟨rfl, hw⟩
        obtain rfl := hw.symm
        go_wp2_with fail
        refine q2.mono ?_
        rintro _ w' ⟨rfl, hw⟩
        obtain rfl := hw.symm
        clear c5 q0 q1 q2
        cases W
        all_goals
          go_wp2
          go_quiet ((first | (go_at_call 6; exact Calls.quiet_of_same (q3 _)) | (go_at_call 7; exact Calls.quiet_of_same (q7 _))))
          go_wp2
          go_ret
          exact ⟨rfl, Grown.drewN' (Grown.refl _) _⟩
      · by_cases hi1 : i = s.size
        · have e0 : ((i : Int) == 0) = false := by simp; omega
          have e1 : ((i : Int) == (s.size : Int)) = true := by simp; omega
          obtain rfl : W = A := by
            have := HC.out
            rw [decide_eq_false hi0, decide_eq_true hi1, decide_eq_true (show 1 ≤ s.size ∧ s.size ≤ 32 by omega)] at this
            simpa using this
          clear HC hi0 hi1
          go_enter Try.func3, Try.ntmps3
          go_wp2_with fail
          refine c5.mono ?_
          rintro _ w' ⟨rfl, hw⟩
          obtain rfl := hw.symm
          go_wp2_with fail
          refine q0.mono ?_
          rintro _ w' ⟨rfl, hw⟩
          obtain rfl := hw.symm
          go_wp2_with fail
          refine q1.mono ?_
          rintro _ w' ⟨rfl, hw⟩
          obtain rfl := hw.symm
          clear c5 q0 q1 q2
          cases W
          all_goals
            go_wp2
            go_quiet ((first | (go_at_call 6; exact Calls.quiet_of_same (q3 _)) | (go_at_call 7; exact Calls.quiet_of_same (q7 _))))
            go_wp2
            go_ret
            exact ⟨rfl, Grown.drewN' (Grown.refl _) _⟩
        · have e0 : ((i : Int) == 0) = false := by simp; omega
          have e1 : ((i : Int) == (s.size : Int)) = false := by simp; omega
          obtain rfl : W = (A && B) := by
            have := HC.out
            rw [decide_eq_false hi0, decide_eq_false (show ¬ i = s.size by omega), decide_eq_true (show 1 ≤ s.size ∧ s.size ≤ 32 by omega)] at this
            simpa using this
          clear HC hi0
          go_enter Try.func3, Try.ntmps3
          go_wp2_with fail
          refine c5.mono ?_
          rintro _ w' ⟨rfl, hw⟩
          obtain rfl := hw.symm
          go_wp2_with fail
          refine q0.mono ?_
          rintro _ w' ⟨rfl, hw⟩
          obtain rfl := hw.symm
          go_wp2_with fail
          refine q1.mono ?_
          rintro _ w' ⟨rfl, hw⟩
          obtain rfl := hw.symm
          go_wp2_with fail
          refine q2.mono ?_
          rintro _ w' ⟨rfl, hw⟩
          obtain rfl := hw.symm
          clear c5 q0 q1 q2
          cases A <;> cases B
          all_goals
            go_wp2
            go_quiet ((first | (go_at_call 6; exact Calls.quiet_of_same (q3 _)) | (go_at_call 7; exact Calls.quiet_of_same (q7 _))))
            go_wp2
            go_ret
            exact ⟨rfl, Grown.drewN' (Grown.refl _) _⟩
    · by_cases hi0 : i = 0
      · have e0 : ((i : Int) == 0) = true := by simp [hi0]
        have e1 : ((i : Int) == (s.size : Int)) = false := by simp; omega
        obtain rfl : W = false := by
          have := HC.out
          rw [decide_eq_true hi0, decide_eq_false (show ¬ i = s.size by omega), decide_eq_false (show ¬ (1 ≤ s.size ∧ s.size ≤ 32) by omega)] at this
          simpa using this
        clear HC hi0
        go_enter Try.func3, Try.ntmps3
        go_wp2_with fail
        refine c5.mono ?_
        rintro _ w' ⟨rfl, hw⟩
        obtain rfl := hw.symm
        go_wp2_with fail
        refine q0.mono ?_
        rintro _ w' ⟨rfl, hw⟩
        obtain rfl := hw.symm
        go_wp2_with fail
        refine q2.mono ?_
        rintro _ w' ⟨rfl, hw⟩
        obtain rfl := hw.symm
        clear c5 q0 q1 q2
        cases B
        all_goals
          go_wp2
          go_quiet ((first | (go_at_call 6; exact Calls.quiet_of_same (q3 _)) | (go_at_call 7; exact Calls.quiet_of_same (q7 _))))
          go_wp2
          go_ret
          exact ⟨rfl, Grown.drewN' (Grown.refl _) _⟩
      · by_cases hi1 : i = s.size
        · have e0 : ((i : Int) == 0) = false := by simp; omega
          have e1 : ((i : Int) == (s.size : Int)) = true := by simp; omega
          obtain rfl : W = false := by
            have := HC.out
            rw [decide_eq_false hi0, decide_eq_true hi1, decide_eq_false (show ¬ (1 ≤ s.size ∧ s.size ≤ 32) by omega)] at this
            simpa using this
          clear HC hi0 hi1
          go_enter Try.func3, Try.ntmps3
          go_wp2_with fail
          refine c5.mono ?_
          rintro _ w' ⟨rfl, hw⟩
          obtain rfl := hw.symm
          go_wp2_with fail
          refine q0.mono ?_
          rintro _ w' ⟨rfl, hw⟩
          obtain rfl := hw.symm
          go_wp2_with fail
          refine q1.mono ?_
          rintro _ w' ⟨rfl, hw⟩
          obtain rfl := hw.symm
          clear c5 q0 q1 q2
          cases A
          all_goals
            go_wp2
            go_quiet ((first | (go_at_call 6; exact Calls.quiet_of_same (q3 _)) | (go_at_call 7; exact Calls.quiet_of_same (q7 _))))
            go_wp2
            go_ret
            exact ⟨rfl, Grown.drewN' (Grown.refl _) _⟩
        · have e0 : ((i : Int) == 0) = false := by simp; omega
          have e1 : ((i : Int) == (s.size : Int)) = false := by simp; omega
          obtain rfl : W = false := by
            have := HC.out
            rw [decide_eq_false hi0, decide_eq_false (show ¬ i = s.size by omega), decide_eq_false (show ¬ (1 ≤ s.size ∧ s.size ≤ 32) by omega)] at this
            simpa using this
          clear HC hi0
          go_enter Try.func3, Try.ntmps3
          go_wp2_with fail
          refine c5.mono ?_
          rintro _ w' ⟨rfl, hw⟩
          obtain rfl := hw.symm
          go_wp2_with fail
          refine q0.mono ?_
          rintro _ w' ⟨rfl, hw⟩
          obtain rfl := hw.symm
          go_wp2_with fail
          refine q1.mono ?_
          rintro _ w' ⟨rfl, hw⟩
          obtain rfl := hw.symm
          go_wp2_with fail
          refine q2.mono ?_
          rintro _ w' ⟨rfl, hw⟩
          obtain rfl := hw.symm
          clear c5 q0 q1 q2
          cases A <;> cases B
          all_goals
            go_wp2
            go_quiet ((first | (go_at_call 6; exact Calls.quiet_of_same (q3 _)) | (go_at_call 7; exact Calls.quiet_of_same (q7 _))))
            go_wp2
            go_ret
            exact ⟨rfl, Grown.drewN' (Grown.refl _) _⟩
  · have hi0 : i = 0 := by omega
    have hz0 : s.size = 0 := by omega
    obtain rfl : W = false := by
      have := HC.out
      rw [decide_eq_false (show ¬ (1 ≤ s.size ∧ s.size ≤ 32) by omega)] at this
      simpa using this
    have e0 : ((i : Int) == 0) = true := by simp [hi0]
    have e1 : ((i : Int) == (s.size : Int)) = true := by simp; omega
    clear HC hi0 hz0
    go_enter Try.func3, Try.ntmps3
    go_wp2_with fail
    refine c5.mono ?_
    rintro _ w' ⟨rfl, hw⟩
    obtain rfl := hw.symm
    go_wp2_with fail
    refine q0.mono ?_
    rintro _ w' ⟨rfl, hw⟩
    obtain rfl := hw.symm
    clear c5 q0 q1 q2
    go_wp2
    go_ret
    exact ⟨rfl, Grown.refl _⟩

end Go.Proofs.Qxb6628767a
