/-
  SEAT b6628739a: THE GUARD zzBytes_FnCookbooksFirstNamedOrderAtAnyCut: it returns a bool and turns nothing.
-/
import Derived.Test.Qxb6628739aGuards
namespace Go.Proofs.Qxb6628739a
open Go.ChangeShapes Go.WideShapes Go.ChangeAt Go.RowKit
set_option linter.unusedVariables false

set_option maxRecDepth 100000 in
set_option maxHeartbeats 2000000 in
theorem bytes5_any (a0 : Option Addr) (len0 cap0 : Nat) (ts : List Itm) (cut : Int) (a1 : Option Addr) (len1 cap1 : Nat) (s1 : List ByteArray) (a2 : Option Addr) (len2 cap2 : Nat) (s2 : List ByteArray) (w : World) (h0 : ReadsI w a0 len0 ts) (h1 : Reads w a1 len1 s1) (h2 : Reads w a2 len2 s2) (hm0 : len0 ≤ maxLen) (hm1 : len1 ≤ maxLen) (hm2 : len2 ≤ maxLen) :
    Calls Try.prog 5 #[.slice a0 len0 cap0, .int .i64 cut, .slice a1 len1 cap1, .slice a2 len2 cap2] w fun e w' => SomeBool e ∧ w' = w := by
  unfold maxLen at hm0 hm1 hm2
  by_cases c0 : len0 ≤ 1048576
  case neg => (go_enter Try.func5, Try.ntmps5; go_wp2; go_ret; exact ⟨someBool _, rfl⟩)
  case pos =>
    go_enter Try.func5, Try.ntmps5
    go_wp2
    go_loop [9, 10] (fun t i => ∃ (k : Nat) (n : Int), k ≤ len0 ∧ i = .int .i64 k ∧ t = .int .i64 n) (fun _ i => len0 - (intOf i).toNat)
    case atStart => exact ⟨0, _, Nat.zero_le _, rfl, rfl⟩
    case round =>
      obtain ⟨k, n, hk, rfl, rfl⟩ := hrel
      by_cases hkn : k < len0
      · obtain ⟨b, off, rfl, y1, y2, y3, e1, e2, e3⟩ := h0.fields hkn
        clear h0 h1 h2
        go_wp2
        any_goals (go_ret; exact ⟨someBool _, rfl⟩)
        go_round
        case rel => exact ⟨k + 1, _, by omega, by go_num, rfl⟩
        case measure => simp [intOf]; omega
      · by_cases c1 : len1 ≤ 1048576
        case neg => (go_wp2; go_ret; exact ⟨someBool _, rfl⟩)
        case pos =>
          go_wp2
          · go_ret
            exact ⟨someBool _, rfl⟩
          go_loop [9, 11] (fun t i => ∃ (k : Nat) (n : Int), k ≤ len1 ∧ i = .int .i64 k ∧ t = .int .i64 n) (fun _ i => len1 - (intOf i).toNat)
          case atStart => exact ⟨0, _, Nat.zero_le _, rfl, rfl⟩
          case round =>
            obtain ⟨k, n, hk, rfl, rfl⟩ := hrel
            by_cases hkn : k < len1
            · obtain ⟨b, off, rfl, y, e1⟩ := h1.elem hkn
              clear h0 h1 h2
              go_wp2
              any_goals (go_ret; exact ⟨someBool _, rfl⟩)
              go_round
              case rel => exact ⟨k + 1, _, by omega, by go_num, rfl⟩
              case measure => simp [intOf]; omega
            · by_cases c2 : len2 ≤ 1048576
              case neg => (go_wp2; go_ret; exact ⟨someBool _, rfl⟩)
              case pos =>
                go_wp2
                · go_ret
                  exact ⟨someBool _, rfl⟩
                go_loop [9, 12] (fun t i => ∃ (k : Nat) (n : Int), k ≤ len2 ∧ i = .int .i64 k ∧ t = .int .i64 n) (fun _ i => len2 - (intOf i).toNat)
                case atStart => exact ⟨0, _, Nat.zero_le _, rfl, rfl⟩
                case round =>
                  obtain ⟨k, n, hk, rfl, rfl⟩ := hrel
                  by_cases hkn : k < len2
                  · obtain ⟨b, off, rfl, y, e1⟩ := h2.elem hkn
                    clear h0 h1 h2
                    go_wp2
                    any_goals (go_ret; exact ⟨someBool _, rfl⟩)
                    go_round
                    case rel => exact ⟨k + 1, _, by omega, by go_num, rfl⟩
                    case measure => simp [intOf]; omega
                  · clear h0 h1 h2
                    go_wp2
                    go_ret
                    exact ⟨someBool _, rfl⟩

end Go.Proofs.Qxb6628739a
