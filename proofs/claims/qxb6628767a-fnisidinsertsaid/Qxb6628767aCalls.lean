/-
  SEAT b6628767a: THE CALLEES' CONTRACTS: IsID, idByte, oneByte, the two guards.
-/
import Derived.Test.Qxb6628767aRows
import Derived.Test.Qxb6628767aPlain
import Derived.WalkKit
import Derived.ProofKit
import Derived.Below
import Derived.WalkSpells
import Derived.WalkLawsBesides
import Derived.Deep.QuietTactic
import Derived.BigQuiet
import Derived.Deep.RegionWith
import Derived.Laws.BytesArg
import Derived.Laws.BitsAllLaws
import Derived.Laws.Concat
import Derived.Lib.Strings
namespace Go.Proofs.Qxb6628767a
open Go.ChangeShapes Go.WideShapes Go.ChangeAt Go.RowKit
open Go.Proofs.Qxb6628767a.Plain
set_option linter.unusedVariables false

/-- A string's bytes. -/
def bytesOf (s : ByteArray) : List UInt8 := s.data.toList

theorem bytesOf_length (s : ByteArray) : (bytesOf s).length = s.size := rfl

theorem ret_bool {a b : Bool} (h : a = b) : Ending.returned (.bool a) = .returned (.bool b) := by rw [h]
theorem val_bool {a b : Bool} (h : a = b) : Value.bool a = .bool b := by rw [h]

set_option maxHeartbeats 1000000 in
theorem isID_any (s : ByteArray) (w : World) (hs : s.size ≤ maxLen) :
    Calls Try.prog 6 #[.string s] w fun e w' => e = .returned (.bool (isID (bytesOf s))) ∧ w' = w := by
  unfold maxLen at hs
  have H0 : Hid (valid (bytesOf s) 0 = decide (1 ≤ s.size ∧ s.size ≤ 32)) := valid_zero _
  have HF : Hid (∀ k, valid (bytesOf s) k = false → isID (bytesOf s) = false) := valid_false _
  have HA : Hid (∀ k, s.size ≤ k → valid (bytesOf s) k = isID (bytesOf s)) := valid_all _
  by_cases c1 : 1 ≤ s.size ∧ s.size ≤ 32
  · obtain ⟨c1, c2⟩ := c1
    have HS : Hid (∀ k, (h : k < s.size) → valid (bytesOf s) (k + 1) = (valid (bytesOf s) k && okI (s[k].toNat : Int))) := fun k h => valid_succ (bytesOf s) k h
    go_enter Try.func6, Try.ntmps6
    go_wp2
    go_loop [3, 4] (fun v i => ∃ k : Nat, k ≤ s.size ∧ i = .int .i64 k ∧ v = .bool (valid (bytesOf s) k)) (fun _ i => s.size - (intOf i).toNat)
    case atStart => exact ⟨0, Nat.zero_le _, rfl, val_bool (by rw [H0.out]; simp [c1, c2]; omega)⟩
    case round =>
      obtain ⟨k, hk, rfl, rfl⟩ := hrel
      generalize hV : valid (bytesOf s) k = V
      have HV : Hid (valid (bytesOf s) k = V) := hV
      clear hV
      cases V
      · go_wp2
        go_ret
        exact ⟨ret_bool (HF.out k HV.out).symm, rfl⟩
      · by_cases hkn : k < s.size
        · have HN : Hid (valid (bytesOf s) (k + 1) = okI (s[k].toNat : Int)) := by
            show _ = _
            rw [HS.out k hkn, HV.out, Bool.true_and]
          go_wp2
          all_goals
            go_round
            case rel =>
              refine ⟨k + 1, by omega, by go_num, val_bool ?_⟩
              rw [HN.out, Bool.eq_iff_iff]
              generalize (s[k].toNat : Int) = c at *
              simp [okI]
              try omega
            case measure => simp [intOf]; omega
        · go_wp2
          go_ret
          exact ⟨ret_bool (by rw [← HA.out k (by omega), HV.out]), rfl⟩
  · have HE : Hid (isID (bytesOf s) = false) := HF.out 0 (by rw [H0.out]; exact decide_eq_false c1)
    clear H0 HF HA
    by_cases c2 : 1 ≤ s.size
    · have c3 : 32 < s.size := by omega
      clear c1
      go_enter Try.func6, Try.ntmps6
      go_wp2
      go_loop [3, 4] (fun v i => v = .bool false) (fun _ _ => 0)
      case atStart => exact val_bool (by simp; omega)
      case round =>
        obtain rfl := hrel
        go_wp2
        go_ret
        exact ⟨ret_bool HE.out.symm, rfl⟩
    · clear c1
      go_enter Try.func6, Try.ntmps6
      go_wp2
      go_loop [3, 4] (fun v i => v = .bool false) (fun _ _ => 0)
      case atStart => first | rfl | exact val_bool (by simp; omega)
      case round =>
        obtain rfl := hrel
        go_wp2
        go_ret
        exact ⟨ret_bool HE.out.symm, rfl⟩

/-- What folding the case by a bit does. -/
theorem fold_table : ((List.range 256).all fun n => decide (97 ≤ (n ||| 32) ∧ (n ||| 32) ≤ 122) == (decide (97 ≤ n ∧ n ≤ 122) || decide (65 ≤ n ∧ n ≤ 90))) = true := by decide +kernel

theorem fold_or (c : Int) (h0 : 0 ≤ c) (h1 : c ≤ 255) : ∃ o : Int, bits BinOp.or IntKind.u8 c 32 = o ∧ ((97 ≤ o ∧ o ≤ 122) ↔ ((97 ≤ c ∧ c ≤ 122) ∨ (65 ≤ c ∧ c ≤ 90))) := by
  refine ⟨_, u8_or c 32 h0 (by omega) (by omega) (by omega), ?_⟩
  have h := List.all_eq_true.1 fold_table c.toNat (List.mem_range.2 (by omega))
  rw [beq_iff_eq, Bool.eq_iff_iff] at h
  simp only [Bool.or_eq_true, decide_eq_true_eq] at h
  have e : (32 : Int).toNat = 32 := rfl
  rw [e]
  generalize c.toNat ||| 32 = n at h
  omega

theorem idByte_any (c : Int) (w : World) (h0 : 0 ≤ c) (h1 : c ≤ 255) :
    Calls Try.prog 7 #[.int .u8 c] w fun e w' => e = .returned (.bool (okI c)) ∧ w' = w := by
  obtain ⟨o, ho, hio⟩ := fold_or c h0 h1
  have HI : Hid ((97 ≤ o ∧ o ≤ 122) ↔ ((97 ≤ c ∧ c ≤ 122) ∨ (65 ≤ c ∧ c ≤ 90))) := hio
  clear hio
  go_enter Try.func7, Try.ntmps7
  go_wp2
  all_goals
    go_ret
    refine ⟨ret_bool ?_, rfl⟩
    have hh := HI.out
    clear HI ho
    rw [Bool.eq_iff_iff]
    simp [okI]
    try omega

/-- 'string([]byte{c})'. -/
theorem oneByte_any (c : Int) (w : World) :
    Calls Try.prog 9 #[.int .u8 c] w fun e w' => e = .returned (.string (strOfNums [c])) ∧ w' = w.alloc (.cells #[.int .u8 c] 5) := by
  have kc := run_convert_bytes_arg (P := Try.prog) (w.alloc (.cells #[.int .u8 c] 5)) 27 5 Try.underlying27 Try.underlying5 w.heap.size 0 1 1 [c] rfl (by
    intro i hi
    obtain rfl : i = 0 := by omega
    simp) 9 Try.underlying9
  go_enter Try.func9, Try.ntmps9
  go_wp2
  go_ret
  exact ⟨rfl, rfl⟩

theorem bytes5_any (s : ByteArray) (i : Int) (w : World) (hs : s.size ≤ maxLen) :
    Calls Try.prog 5 #[.string s, .int .i64 i] w fun e w' => e = .returned (.bool (decide (s.size ≤ 1048576))) ∧ w' = w := by
  unfold maxLen at hs
  by_cases c0 : s.size ≤ 1048576
  all_goals
    go_enter Try.func5, Try.ntmps5
    go_wp2
    go_ret
    exact ⟨ret_bool (by simp [c0]), rfl⟩

theorem bytes8_any (s : ByteArray) (i c : Int) (w : World) (hs : s.size ≤ maxLen) :
    Calls Try.prog 8 #[.string s, .int .i64 i, .int .u8 c] w fun e w' => e = .returned (.bool (decide (s.size ≤ 1048576))) ∧ w' = w := by
  unfold maxLen at hs
  by_cases c0 : s.size ≤ 1048576
  all_goals
    go_enter Try.func8, Try.ntmps8
    go_wp2
    go_ret
    exact ⟨ret_bool (by simp [c0]), rfl⟩

end Go.Proofs.Qxb6628767a
