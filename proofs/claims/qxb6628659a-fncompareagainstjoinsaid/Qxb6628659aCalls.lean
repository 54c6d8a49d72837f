/-
  THE CALLEES' CONTRACTS of seat b6628659a: counter, Compare, zzDominatedBy, the two zzBytes, zzMirror.
-/
import Derived.Test.Qxb6628659aRows
import Derived.Test.Qxb6628659aPlain
import Derived.WalkKit
import Derived.ProofKit
import Derived.Below
import Derived.WalkSpells
import Derived.WalkLawsBesides
import Derived.Deep.QuietTactic
import Derived.BigQuiet
import Derived.Deep.RegionWith
namespace Go.Proofs.Qxb6628659a
open Go.ChangeShapes Go.WideShapes Go.ChangeAt Go.RowKit
open Go.Proofs.Qxb6628659a.Plain
set_option linter.unusedVariables false

/-- The slice value at 'a', of 'len' elements, reads as the numbers zs in the world w. -/
def Reads (w : World) (a : Option Addr) (len : Nat) (zs : List Int) : Prop :=
  zs.length = len ∧ (0 < len → ∃ b off, a = some ⟨b, off, none⟩ ∧ ∀ i, i < len → w.cell? ⟨b, off + i, none⟩ = some (.int .u64 (zs.getD i 0)))

theorem ret_int {k : IntKind} {a b : Int} (h : a = b) : Ending.returned (.int k a) = .returned (.int k b) := by rw [h]
theorem ret_bool {a b : Bool} (h : a = b) : Ending.returned (.bool a) = .returned (.bool b) := by rw [h]

theorem counter_any (a : Option Addr) (len cap k : Nat) (zs : List Int) (w : World) (h : Reads w a len zs) :
    Calls Try.prog 10 #[.slice a len cap, .int .i64 k] w fun e w' => e = .returned (.int .u64 (zs.getD k 0)) ∧ w' = w := by
  obtain ⟨hl, hc⟩ := h
  by_cases hk : k < len
  · obtain ⟨b, off, rfl, hcell⟩ := hc (by omega)
    have hck := hcell k hk
    clear hcell hc
    generalize zs.getD k 0 = x at hck ⊢
    go_enter Try.func10, Try.ntmps10
    go_wp2
    go_ret
    exact ⟨rfl, rfl⟩
  · have e : zs.getD k 0 = 0 := getD_out zs k (by omega)
    rw [e]
    clear e hc hl
    go_enter Try.func10, Try.ntmps10
    go_wp2
    go_ret
    exact ⟨rfl, rfl⟩

/-- Two counters, Compare's own. -/
theorem compare_any (a0 : Option Addr) (len0 cap0 : Nat) (v : List Int) (a1 : Option Addr) (len1 cap1 : Nat) (u : List Int) (w : World) (h0 : Reads w a0 len0 v) (h1 : Reads w a1 len1 u) (b0 : len0 ≤ 65536) (b1 : len1 ≤ 65536) :
    Calls Try.prog 6 #[.slice a0 len0 cap0, .slice a1 len1 cap1] w fun e w' => e = .returned (.int .u8 (cmp v u)) ∧ w' = w := by
  obtain ⟨n, hn⟩ : ∃ n, n = max len0 len1 := ⟨_, rfl⟩
  have HC : Hid (cmp v u = code (bel v u n) (bel u v n)) := by
    have e0 := h0.1; have e1 := h1.1
    show cmp v u = _
    rw [hn, ← e0, ← e1]; rfl
  by_cases hlt : len0 < len1
  · obtain rfl : n = len1 := by omega
    clear hn
    go_enter Try.func6, Try.ntmps6
    go_wp2
    go_loop [5, 6, 15] (fun p q i => ∃ k : Nat, k ≤ n ∧ i = .int .i64 k ∧ p = .bool (bel v u k) ∧ q = .bool (bel u v k)) (fun _ _ i => n - (intOf i).toNat)
    case atStart => exact ⟨0, Nat.zero_le _, rfl, rfl, rfl⟩
    case round =>
      obtain ⟨k, hk, rfl, rfl, rfl⟩ := hrel
      have HP : Hid (bel v u (k + 1) = (bel v u k || decide (v.getD k 0 < u.getD k 0))) := rfl
      have HQ : Hid (bel u v (k + 1) = (bel u v k || decide (u.getD k 0 < v.getD k 0))) := rfl
      generalize hP : bel v u k = P at HP ⊢
      generalize hQ : bel u v k = Q at HQ ⊢
      have HkP : Hid (bel v u k = P) := hP
      have HkQ : Hid (bel u v k = Q) := hQ
      clear hP hQ
      by_cases hkn : k < n
      · cases P <;> cases Q
        all_goals
          go_wp2_with (first | (go_at_call_of 10 (Value.slice a0 len0 cap0); refine (counter_any _ _ _ _ _ _ h0).mono ?_; rintro e w' ⟨rfl, rfl⟩) | (go_at_call_of 10 (Value.slice a1 n cap1); refine (counter_any _ _ _ _ _ _ h1).mono ?_; rintro e w' ⟨rfl, rfl⟩))
          go_round
          case rel => exact ⟨k + 1, by omega, by go_num, by rw [HP.out]; rfl, by rw [HQ.out]; rfl⟩
          case measure => simp [intOf]; omega
      · obtain rfl : k = n := by omega
        cases P <;> cases Q
        all_goals
          go_wp2
          go_ret
          exact ⟨ret_int (by rw [HC.out, HkP.out, HkQ.out]; rfl), rfl⟩
  · obtain rfl : n = len0 := by omega
    clear hn
    go_enter Try.func6, Try.ntmps6
    go_wp2
    go_loop [5, 6, 15] (fun p q i => ∃ k : Nat, k ≤ n ∧ i = .int .i64 k ∧ p = .bool (bel v u k) ∧ q = .bool (bel u v k)) (fun _ _ i => n - (intOf i).toNat)
    case atStart => exact ⟨0, Nat.zero_le _, rfl, rfl, rfl⟩
    case round =>
      obtain ⟨k, hk, rfl, rfl, rfl⟩ := hrel
      have HP : Hid (bel v u (k + 1) = (bel v u k || decide (v.getD k 0 < u.getD k 0))) := rfl
      have HQ : Hid (bel u v (k + 1) = (bel u v k || decide (u.getD k 0 < v.getD k 0))) := rfl
      generalize hP : bel v u k = P at HP ⊢
      generalize hQ : bel u v k = Q at HQ ⊢
      have HkP : Hid (bel v u k = P) := hP
      have HkQ : Hid (bel u v k = Q) := hQ
      clear hP hQ
      by_cases hkn : k < n
      · cases P <;> cases Q
        all_goals
          go_wp2_with (first | (go_at_call_of 10 (Value.slice a0 n cap0); refine (counter_any _ _ _ _ _ _ h0).mono ?_; rintro e w' ⟨rfl, rfl⟩) | (go_at_call_of 10 (Value.slice a1 len1 cap1); refine (counter_any _ _ _ _ _ _ h1).mono ?_; rintro e w' ⟨rfl, rfl⟩))
          go_round
          case rel => exact ⟨k + 1, by omega, by go_num, by rw [HP.out]; rfl, by rw [HQ.out]; rfl⟩
          case measure => simp [intOf]; omega
      · obtain rfl : k = n := by omega
        cases P <;> cases Q
        all_goals
          go_wp2
          go_ret
          exact ⟨ret_int (by rw [HC.out, HkP.out, HkQ.out]; rfl), rfl⟩

end Go.Proofs.Qxb6628659a
