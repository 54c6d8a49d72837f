/-
  SEAT b6628739a: THE GUARDS ON SIZES (cbSizeOK, the two zzBytes): each returns a bool and turns nothing; cbSizeOK says false of more than 1024 items. More is not wanted of them.
-/
import Derived.Test.Qxb6628739aBooks
namespace Go.Proofs.Qxb6628739a
open Go.ChangeShapes Go.WideShapes Go.ChangeAt Go.RowKit
open Go.Proofs.Qxb6628739a.Plain
set_option linter.unusedVariables false

/-- It returns a bool (a definition of its own: the walk's simp would take '∃ b : Bool, ..' apart). -/
def SomeBool (e : Ending) : Prop := ∃ b : Bool, e = .returned (.bool b)
theorem someBool (b : Bool) : SomeBool (.returned (.bool b)) := ⟨b, rfl⟩

theorem ReadsI.fields {w : World} {a : Option Addr} {len : Nat} {ts : List Itm} (h : ReadsI w a len ts) {k : Nat} (hk : k < len) : ∃ b off, a = some ⟨b, off, none⟩ ∧ ∃ y1 y2 y3, w.cell? ⟨b, off + k * 4 + 1, none⟩ = some (.string y1) ∧ w.cell? ⟨b, off + k * 4 + 2, none⟩ = some (.string y2) ∧ w.cell? ⟨b, off + k * 4 + 3, none⟩ = some (.string y3) := by
  obtain ⟨b, off, e, hc⟩ := h.2 (by omega)
  exact ⟨b, off, e, _, _, _, (hc k hk).2.1, (hc k hk).2.2.1, (hc k hk).2.2.2⟩

theorem Reads.elem {w : World} {a : Option Addr} {len : Nat} {ss : List ByteArray} (h : Reads w a len ss) {k : Nat} (hk : k < len) : ∃ b off, a = some ⟨b, off, none⟩ ∧ ∃ y, w.cell? ⟨b, off + k, none⟩ = some (.string y) := by
  obtain ⟨b, off, e, hc⟩ := h.2 (by omega)
  exact ⟨b, off, e, _, hc k hk⟩

set_option maxRecDepth 100000 in
set_option maxHeartbeats 2000000 in
theorem size_long (a0 : Option Addr) (len0 cap0 : Nat) (ts : List Itm) (a1 : Option Addr) (len1 cap1 : Nat) (s1 : List ByteArray) (a2 : Option Addr) (len2 cap2 : Nat) (s2 : List ByteArray) (w : World) (h0 : ReadsI w a0 len0 ts) (h1 : Reads w a1 len1 s1) (h2 : Reads w a2 len2 s2) (hm0 : len0 ≤ maxLen) (hm1 : len1 ≤ maxLen) (hm2 : len2 ≤ maxLen) (hl : 1024 < len0) :
    Calls Try.prog 6 #[.slice a0 len0 cap0, .slice a1 len1 cap1, .slice a2 len2 cap2] w fun e w' => e = .returned (.bool false) ∧ w' = w := by
  unfold maxLen at hm0 hm1 hm2
  clear h0 h1 h2
  go_enter Try.func6, Try.ntmps6
  go_wp2
  go_ret
  exact ⟨rfl, rfl⟩

set_option maxRecDepth 100000 in
set_option maxHeartbeats 2000000 in
theorem size_any (a0 : Option Addr) (len0 cap0 : Nat) (ts : List Itm) (a1 : Option Addr) (len1 cap1 : Nat) (s1 : List ByteArray) (a2 : Option Addr) (len2 cap2 : Nat) (s2 : List ByteArray) (w : World) (h0 : ReadsI w a0 len0 ts) (h1 : Reads w a1 len1 s1) (h2 : Reads w a2 len2 s2) (hm0 : len0 ≤ maxLen) (hm1 : len1 ≤ maxLen) (hm2 : len2 ≤ maxLen) (c0 : len0 ≤ 1024) :
    Calls Try.prog 6 #[.slice a0 len0 cap0, .slice a1 len1 cap1, .slice a2 len2 cap2] w fun e w' => SomeBool e ∧ w' = w := by
  unfold maxLen at hm0 hm1 hm2
  by_cases c1 : len1 ≤ 65536
  case neg => (go_enter Try.func6, Try.ntmps6; go_wp2; go_ret; exact ⟨someBool _, rfl⟩)
  by_cases c2 : len2 ≤ 65536
  case neg => (go_enter Try.func6, Try.ntmps6; go_wp2; go_ret; exact ⟨someBool _, rfl⟩)
  case pos =>
    go_enter Try.func6, Try.ntmps6
    go_wp2
    go_loop [7, 8] (fun t i => ∃ (k : Nat) (n : Int), k ≤ len0 ∧ i = .int .i64 k ∧ t = .int .i64 n) (fun _ i => len0 - (intOf i).toNat)
    case atStart => exact ⟨0, _, Nat.zero_le _, rfl, rfl⟩
    case round =>
      obtain ⟨k, n, hk, rfl, rfl⟩ := hrel
      by_cases hkn : k < len0
      · obtain ⟨b, off, rfl, y1, y2, y3, e1, e2, e3⟩ := h0.fields hkn
        clear h0 h1 h2
        go_wp2
        any_goals (go_ret; exact ⟨someBool _, rfl⟩)
        go_round
        case rel => exact ⟨k + 1, _, by omega, by go_num, rfl⟩
        case measure => simp [intOf]; omega
      · go_wp2
        go_loop [7, 9] (fun t i => ∃ (k : Nat) (n : Int), k ≤ len1 ∧ i = .int .i64 k ∧ t = .int .i64 n) (fun _ i => len1 - (intOf i).toNat)
        case atStart => exact ⟨0, _, Nat.zero_le _, rfl, rfl⟩
        case round =>
          obtain ⟨k, n, hk, rfl, rfl⟩ := hrel
          by_cases hkn : k < len1
          · obtain ⟨b, off, rfl, y, e1⟩ := h1.elem hkn
            clear h0 h1 h2
            go_wp2
            any_goals (go_ret; exact ⟨someBool _, rfl⟩)
            go_round
            case rel => exact ⟨k + 1, _, by omega, by go_num, rfl⟩
            case measure => simp [intOf]; omega
          · go_wp2
            go_loop [7, 10] (fun t i => ∃ (k : Nat) (n : Int), k ≤ len2 ∧ i = .int .i64 k ∧ t = .int .i64 n) (fun _ i => len2 - (intOf i).toNat)
            case atStart => exact ⟨0, _, Nat.zero_le _, rfl, rfl⟩
            case round =>
              obtain ⟨k, n, hk, rfl, rfl⟩ := hrel
              by_cases hkn : k < len2
              · obtain ⟨b, off, rfl, y, e1⟩ := h2.elem hkn
                clear h0 h1 h2
                go_wp2
                any_goals (go_ret; exact ⟨someBool _, rfl⟩)
                go_round
                case rel => exact ⟨k + 1, _, by omega, by go_num, rfl⟩
                case measure => simp [intOf]; omega
              · clear h0 h1 h2
                go_wp2
                go_ret
                exact ⟨someBool _, rfl⟩

end Go.Proofs.Qxb6628739a
