/-
  SEAT b6628767a: the walk of FnIsIDInsert.
-/
import Derived.Test.Qxb6628767aTop1
namespace Go.Proofs.Qxb6628767a
open Go.ChangeShapes Go.WideShapes Go.ChangeAt Go.RowKit
open Go.Proofs.Qxb6628767a.Plain
set_option linter.unusedVariables false

/-- The string with c put in at i. -/
def put (s : ByteArray) (i : Nat) (c : Int) : ByteArray := s.extract 0 i ++ strOfNums [c] ++ s.extract i s.size

theorem bytes_append (a b : ByteArray) : bytesOf (a ++ b) = bytesOf a ++ bytesOf b := by
  simp [bytesOf]

theorem bytes_one (c : Int) : bytesOf (strOfNums [c]) = [UInt8.ofNat c.toNat] := rfl

theorem okB_ofNat (c : Int) (h0 : 0 ≤ c) (h1 : c ≤ 255) : okB (UInt8.ofNat c.toNat) = okI c := by
  unfold okB
  have e : (UInt8.ofNat c.toNat).toNat = c.toNat := by simp; omega
  rw [e, Int.toNat_of_nonneg h0]

theorem put_size (s : ByteArray) (i : Nat) (c : Int) (hi : i ≤ s.size) : (put s i c).size = s.size + 1 := by
  have : (bytesOf (put s i c)).length = s.size + 1 := by
    rw [put, bytes_append, bytes_append, bytes_left, bytes_right, bytes_one]
    have hl : (bytesOf s).length = s.size := rfl
    simp [hl]
    omega
  exact this

theorem put_law (s : ByteArray) (i : Nat) (c : Int) (hi : i ≤ s.size) (h0 : 0 ≤ c) (h1 : c ≤ 255) :
    isID (bytesOf (put s i c)) = (decide (s.size ≤ 31) && (decide (s.size = 0) || isID (bytesOf s)) && okI c) := by
  rw [put, bytes_append, bytes_append, bytes_left, bytes_right, bytes_one, ← okB_ofNat c h0 h1]
  exact insert_law (bytesOf s) _ i hi

set_option maxHeartbeats 1000000 in
theorem top2_out (s : ByteArray) (i c : Int) (w : World) (hs : s.size ≤ maxLen) (h : ¬ (s.size ≤ 65536 ∧ 0 ≤ i ∧ i ≤ s.size)) :
    Calls Try.prog 4 #[.string s, .int .i64 i, .int .u8 c] w fun e w' => e = .returned (.bool true) ∧ Grown w w' := by
  have c5 := bytes8_any s i c w hs
  unfold maxLen at hs
  generalize decide (s.size ≤ 1048576) = b at c5
  cases b
  · clear h
    go_enter Try.func4, Try.ntmps4
    go_wp2_with (go_at_call 8; refine c5.mono ?_; rintro e w' ⟨rfl, rfl⟩)
    go_ret
    exact ⟨rfl, Grown.refl _⟩
  · by_cases h1 : s.size ≤ 65536
    · by_cases h2 : i < 0
      · clear h
        go_enter Try.func4, Try.ntmps4
        go_wp2_with (go_at_call 8; refine c5.mono ?_; rintro e w' ⟨rfl, rfl⟩)
        go_ret
        exact ⟨rfl, Grown.refl _⟩
      · have h3 : (s.size : Int) < i := by omega
        clear h
        go_enter Try.func4, Try.ntmps4
        go_wp2_with (go_at_call 8; refine c5.mono ?_; rintro e w' ⟨rfl, rfl⟩)
        go_ret
        exact ⟨rfl, Grown.refl _⟩
    · clear h
      go_enter Try.func4, Try.ntmps4
      go_wp2_with (go_at_call 8; refine c5.mono ?_; rintro e w' ⟨rfl, rfl⟩)
      go_ret
      exact ⟨rfl, Grown.refl _⟩

set_option maxHeartbeats 2000000 in
theorem top2_in (s : ByteArray) (i : Nat) (c : Int) (w : World) (b0 : s.size ≤ 65536) (hi : i ≤ s.size) (h0 : 0 ≤ c) (h1 : c ≤ 255) :
    Calls Try.prog 4 #[.string s, .int .i64 i, .int .u8 c] w fun e w' => e = .returned (.bool true) ∧ Grown w w' := by
  have hm : s.size ≤ maxLen := by unfold maxLen; omega
  have c8 := bytes8_any s i c w hm
  rw [decide_eq_true (show s.size ≤ 1048576 by omega)] at c8
  have q9 := fun wx => oneByte_any c wx
  have q1 := fun wx => isID_any (strOfNums [c]) wx (by rw [strOfNums_size]; unfold maxLen; simp)
  rw [bytes_one, one_law, okB_ofNat c h0 h1] at q1
  have q7 := fun wx => idByte_any c wx h0 h1
  have qs := fun wx => isID_any s wx hm
  have qt := fun wx => isID_any (put s i c) wx (by rw [put_size s i c hi]; unfold maxLen; omega)
  have HP : Hid (isID (bytesOf (put s i c)) = (decide (s.size ≤ 31) && (decide (s.size = 0) || isID (bytesOf s)) && okI c)) := put_law s i c hi h0 h1
  generalize okI c = X at q1 q7 HP
  generalize isID (bytesOf s) = S at qs HP
  generalize isID (bytesOf (put s i c)) = T at qt HP
  have k1 := fun wx => run_string_add_sum (P := Try.prog) wx (s.extract 0 i) (strOfNums [c]) (by rw [strOfNums_size]; have := ByteArray.size_extract (a := s) (b := 0) (e := i); simp; omega)
  have k2 := fun wx => run_string_add_sum (P := Try.prog) wx (s.extract 0 i ++ strOfNums [c]) (s.extract i s.size) (by
    have e1 := ByteArray.size_extract (a := s) (b := 0) (e := i)
    have e2 := ByteArray.size_extract (a := s) (b := i) (e := s.size)
    have e3 : (s.extract 0 i ++ strOfNums [c]).size = (s.extract 0 i).size + (strOfNums [c]).size := ByteArray.size_append
    rw [e3, strOfNums_size]
    simp
    omega)
  go_enter Try.func4, Try.ntmps4
  go_wp2_with fail
  refine c8.mono ?_
  rintro _ w' ⟨rfl, hw⟩
  obtain rfl := hw.symm
  clear c8
  go_wp2_with fail
  refine (q9 _).mono ?_
  rintro _ w1 ⟨rfl, hw1⟩
  have G1 : Grown w w1 := by rw [hw1]; exact (Grown.refl _).alloc _ _
  clear hw1
  go_wp2_with fail
  refine (q1 _).mono ?_
  rintro _ w' ⟨rfl, hw⟩
  obtain rfl := hw.symm
  go_wp2_with fail
  refine (q7 _).mono ?_
  rintro _ w' ⟨rfl, hw⟩
  obtain rfl := hw.symm
  clear q1 q7
  have hk1 : (i : Int) ≤ (s.size : Int) := by omega
  go_upto_region 10 with fail
  go_cut [8] (fun v wx => v = .string (put s i c) ∧ Grown w wx)
  case first =>
    clear qs qt
    go_region_with (go_at_call 9; refine (q9 _).mono ?_; rintro _ w2 ⟨rfl, hw2⟩; have G2 : Grown w w2 := (by rw [hw2]; exact G1.drew.alloc _ _); clear hw2)
    all_goals
      go_wp2
      go_meet
      case rel => exact ⟨rfl, G2⟩
  case rest =>
    obtain ⟨rfl, G2⟩ := hcut
    clear q9 G1 k1 k2
    by_cases h31 : s.size ≤ 31
    · by_cases hz : s.size = 0
      · have ez : ((s.size : Int) == 0) = true := by rw [beq_iff_eq]; omega
        obtain rfl : T = X := by
          have := HP.out
          rw [decide_eq_true h31, decide_eq_true hz] at this
          simpa using this
        clear HP hz
        go_wp2_with fail
        refine (qt _).mono ?_
        rintro _ w' ⟨rfl, hw⟩
        obtain rfl := hw.symm
        clear qs qt
        cases T
        all_goals
          go_wp2
          go_ret
          exact ⟨rfl, G2⟩
      · have ez : ((s.size : Int) == 0) = false := by rw [beq_eq_false_iff_ne]; omega
        obtain rfl : T = (S && X) := by
          have := HP.out
          rw [decide_eq_true h31, decide_eq_false hz] at this
          simpa using this
        clear HP
        go_wp2_with fail
        refine (qs _).mono ?_
        rintro _ w' ⟨rfl, hw⟩
        obtain rfl := hw.symm
        cases S <;> cases X
        all_goals
          go_wp2_with fail
          refine (qt _).mono ?_
          rintro _ w' ⟨rfl, hw⟩
          obtain rfl := hw.symm
          go_wp2
          go_ret
          exact ⟨rfl, G2⟩
    · obtain rfl : T = false := by
        have := HP.out
        rw [decide_eq_false h31] at this
        simpa using this
      clear HP
      go_wp2_with fail
      refine (qt _).mono ?_
      rintro _ w' ⟨rfl, hw⟩
      obtain rfl := hw.symm
      clear qs qt
      go_wp2
      go_ret
      exact ⟨rfl, G2⟩

end Go.Proofs.Qxb6628767a
