/-
  SEAT b6628696a: THE GUARDS ON SIZES (zzAddBytes, the two zzBytes): each returns something, and turns nothing. More is not wanted of them.
-/
import Derived.Test.Qxb6628696aCalls2
namespace Go.Proofs.Qxb6628696a
open Go.ChangeShapes Go.WideShapes Go.ChangeAt Go.RowKit
open Go.Proofs.Qxb6628696a.Plain
set_option linter.unusedVariables false

theorem addBytes_any (t0 : Int) (a : Option Addr) (len cap : Nat) (ss : List ByteArray) (w : World) (h : Reads w a len ss) (hm : len ≤ maxLen) :
    Calls Try.prog 6 #[.int .i64 t0, .slice a len cap] w fun e w' => (∃ n : Int, e = .returned (.int .i64 n)) ∧ w' = w := by
  unfold maxLen at hm
  go_enter Try.func6, Try.ntmps6
  go_wp2
  go_loop [0, 5] (fun t i => ∃ (k : Nat) (n : Int), k ≤ len ∧ i = .int .i64 k ∧ t = .int .i64 n) (fun _ i => len - (intOf i).toNat)
  case atStart => exact ⟨0, t0, Nat.zero_le _, rfl, rfl⟩
  case round =>
    obtain ⟨k, n, hk, rfl, rfl⟩ := hrel
    by_cases hkn : k < len
    · obtain ⟨b, off, rfl, hc⟩ := h.2 (by omega)
      have hck := hc k hkn
      generalize ss.getD k ByteArray.empty = y at *
      clear hc h
      go_wp2
      · go_ret
        exact ⟨⟨_, rfl⟩, rfl⟩
      · go_ret
        exact ⟨⟨_, rfl⟩, rfl⟩
      · go_round
        case rel => exact ⟨k + 1, _, by omega, by go_num, rfl⟩
        case measure => simp [intOf]; omega
    · clear h
      go_wp2
      go_ret
      exact ⟨⟨_, rfl⟩, rfl⟩

/-- It returns a bool (a definition of its own: the walk's simp would take '∃ b : Bool, ..' apart). -/
def SomeBool (e : Ending) : Prop := ∃ b : Bool, e = .returned (.bool b)
theorem someBool (b : Bool) : SomeBool (.returned (.bool b)) := ⟨b, rfl⟩

theorem bytes5_any (a0 : Option Addr) (len0 cap0 : Nat) (s0 : List ByteArray) (a1 : Option Addr) (len1 cap1 : Nat) (s1 : List ByteArray) (k2 : Int) (w : World) (h0 : Reads w a0 len0 s0) (h1 : Reads w a1 len1 s1) (hm0 : len0 ≤ maxLen) (hm1 : len1 ≤ maxLen) :
    Calls Try.prog 5 #[.slice a0 len0 cap0, .slice a1 len1 cap1, .int .i64 k2] w fun e w' => SomeBool e ∧ w' = w := by
  unfold maxLen at hm0 hm1
  by_cases c0 : len0 ≤ 1048576
  case neg => (go_enter Try.func5, Try.ntmps5; go_wp2; go_ret; exact ⟨someBool _, rfl⟩)
  case pos =>
    go_enter Try.func5, Try.ntmps5
    go_wp2
    go_loop [7, 8] (fun t i => ∃ (k : Nat) (n : Int), k ≤ len0 ∧ i = .int .i64 k ∧ t = .int .i64 n) (fun _ i => len0 - (intOf i).toNat)
    case atStart => exact ⟨0, _, Nat.zero_le _, rfl, rfl⟩
    case round =>
      obtain ⟨k, n, hk, rfl, rfl⟩ := hrel
      by_cases hkn : k < len0
      · obtain ⟨b, off, rfl, hc⟩ := h0.2 (by omega)
        have hck := hc k hkn
        generalize s0.getD k ByteArray.empty = y at *
        clear hc h0
        go_wp2
        · go_ret
          exact ⟨someBool _, rfl⟩
        · go_ret
          exact ⟨someBool _, rfl⟩
        · go_round
          case rel => exact ⟨k + 1, _, by omega, by go_num, rfl⟩
          case measure => simp [intOf]; omega
      · clear h0
        by_cases c1 : len1 ≤ 1048576
        case neg => (go_wp2; go_ret; exact ⟨someBool _, rfl⟩)
        case pos =>
          go_wp2
          · go_ret
            exact ⟨someBool _, rfl⟩
          go_loop [7, 9] (fun t i => ∃ (k : Nat) (n : Int), k ≤ len1 ∧ i = .int .i64 k ∧ t = .int .i64 n) (fun _ i => len1 - (intOf i).toNat)
          case atStart => exact ⟨0, _, Nat.zero_le _, rfl, rfl⟩
          case round =>
            obtain ⟨k, n, hk, rfl, rfl⟩ := hrel
            by_cases hkn : k < len1
            · obtain ⟨b, off, rfl, hc⟩ := h1.2 (by omega)
              have hck := hc k hkn
              generalize s1.getD k ByteArray.empty = y at *
              clear hc h1
              go_wp2
              · go_ret
                exact ⟨someBool _, rfl⟩
              · go_ret
                exact ⟨someBool _, rfl⟩
              · go_round
                case rel => exact ⟨k + 1, _, by omega, by go_num, rfl⟩
                case measure => simp [intOf]; omega
            · clear h1
              go_wp2
              go_ret
              exact ⟨someBool _, rfl⟩

theorem bytes8_any (a0 : Option Addr) (len0 cap0 : Nat) (s0 : List ByteArray) (a1 : Option Addr) (len1 cap1 : Nat) (s1 : List ByteArray) (a2 : Option Addr) (len2 cap2 : Nat) (s2 : List ByteArray) (w : World) (h0 : Reads w a0 len0 s0) (h1 : Reads w a1 len1 s1) (h2 : Reads w a2 len2 s2) (hm0 : len0 ≤ maxLen) (hm1 : len1 ≤ maxLen) (hm2 : len2 ≤ maxLen) :
    Calls Try.prog 8 #[.slice a0 len0 cap0, .slice a1 len1 cap1, .slice a2 len2 cap2] w fun e w' => SomeBool e ∧ w' = w := by
  unfold maxLen at hm0 hm1 hm2
  by_cases c0 : len0 ≤ 1048576
  case neg => (go_enter Try.func8, Try.ntmps8; go_wp2; go_ret; exact ⟨someBool _, rfl⟩)
  case pos =>
    go_enter Try.func8, Try.ntmps8
    go_wp2
    go_loop [7, 8] (fun t i => ∃ (k : Nat) (n : Int), k ≤ len0 ∧ i = .int .i64 k ∧ t = .int .i64 n) (fun _ i => len0 - (intOf i).toNat)
    case atStart => exact ⟨0, _, Nat.zero_le _, rfl, rfl⟩
    case round =>
      obtain ⟨k, n, hk, rfl, rfl⟩ := hrel
      by_cases hkn : k < len0
      · obtain ⟨b, off, rfl, hc⟩ := h0.2 (by omega)
        have hck := hc k hkn
        generalize s0.getD k ByteArray.empty = y at *
        clear hc h0
        go_wp2
        · go_ret
          exact ⟨someBool _, rfl⟩
        · go_ret
          exact ⟨someBool _, rfl⟩
        · go_round
          case rel => exact ⟨k + 1, _, by omega, by go_num, rfl⟩
          case measure => simp [intOf]; omega
      · clear h0
        by_cases c1 : len1 ≤ 1048576
        case neg => (go_wp2; go_ret; exact ⟨someBool _, rfl⟩)
        case pos =>
          go_wp2
          · go_ret
            exact ⟨someBool _, rfl⟩
          go_loop [7, 9] (fun t i => ∃ (k : Nat) (n : Int), k ≤ len1 ∧ i = .int .i64 k ∧ t = .int .i64 n) (fun _ i => len1 - (intOf i).toNat)
          case atStart => exact ⟨0, _, Nat.zero_le _, rfl, rfl⟩
          case round =>
            obtain ⟨k, n, hk, rfl, rfl⟩ := hrel
            by_cases hkn : k < len1
            · obtain ⟨b, off, rfl, hc⟩ := h1.2 (by omega)
              have hck := hc k hkn
              generalize s1.getD k ByteArray.empty = y at *
              clear hc h1
              go_wp2
              · go_ret
                exact ⟨someBool _, rfl⟩
              · go_ret
                exact ⟨someBool _, rfl⟩
              · go_round
                case rel => exact ⟨k + 1, _, by omega, by go_num, rfl⟩
                case measure => simp [intOf]; omega
            · clear h1
              by_cases c2 : len2 ≤ 1048576
              case neg => (go_wp2; go_ret; exact ⟨someBool _, rfl⟩)
              case pos =>
                go_wp2
                · go_ret
                  exact ⟨someBool _, rfl⟩
                go_loop [7, 10] (fun t i => ∃ (k : Nat) (n : Int), k ≤ len2 ∧ i = .int .i64 k ∧ t = .int .i64 n) (fun _ i => len2 - (intOf i).toNat)
                case atStart => exact ⟨0, _, Nat.zero_le _, rfl, rfl⟩
                case round =>
                  obtain ⟨k, n, hk, rfl, rfl⟩ := hrel
                  by_cases hkn : k < len2
                  · obtain ⟨b, off, rfl, hc⟩ := h2.2 (by omega)
                    have hck := hc k hkn
                    generalize s2.getD k ByteArray.empty = y at *
                    clear hc h2
                    go_wp2
                    · go_ret
                      exact ⟨someBool _, rfl⟩
                    · go_ret
                      exact ⟨someBool _, rfl⟩
                    · go_round
                      case rel => exact ⟨k + 1, _, by omega, by go_num, rfl⟩
                      case measure => simp [intOf]; omega
                  · clear h2
                    go_wp2
                    go_ret
                    exact ⟨someBool _, rfl⟩

end Go.Proofs.Qxb6628696a
