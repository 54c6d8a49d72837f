/-
  SEAT b6628696a: THE CALLEES' CONTRACTS: slices.Index, Contains, IndexFunc, ContainsFunc, the closure of Covers.
-/
import Derived.Test.Qxb6628696aRows
import Derived.Test.Qxb6628696aPlain
import Derived.WalkKit
import Derived.ProofKit
import Derived.Below
import Derived.WalkSpells
import Derived.WalkLawsBesides
import Derived.Deep.QuietTactic
import Derived.BigQuiet
import Derived.Deep.RegionWith
namespace Go.Proofs.Qxb6628696a
open Go.ChangeShapes Go.WideShapes Go.ChangeAt Go.RowKit
open Go.Proofs.Qxb6628696a.Plain
set_option linter.unusedVariables false

/-- The slice value at 'a', of 'len' elements, reads as the strings ss in the world w. -/
def Reads (w : World) (a : Option Addr) (len : Nat) (ss : List ByteArray) : Prop :=
  ss.length = len ∧ (0 < len → ∃ b off, a = some ⟨b, off, none⟩ ∧ ∀ i, i < len → w.cell? ⟨b, off + i, none⟩ = some (.string (ss.getD i ByteArray.empty)))

theorem ret_int {k : IntKind} {a b : Int} (h : a = b) : Ending.returned (.int k a) = .returned (.int k b) := by rw [h]
theorem ret_bool {a b : Bool} (h : a = b) : Ending.returned (.bool a) = .returned (.bool b) := by rw [h]

theorem index_any (a : Option Addr) (len cap : Nat) (ss : List ByteArray) (x : ByteArray) (w : World) (h : Reads w a len ss) (hm : len ≤ maxLen) :
    Calls Try.prog 13 #[.slice a len cap, .string x] w fun e w' => e = .returned (.int .i64 (fidx (same x) ss 0)) ∧ w' = w := by
  unfold maxLen at hm
  go_enter Try.func13, Try.ntmps13
  go_wp2
  go_loop [8] (fun i => ∃ k : Nat, k ≤ len ∧ i = .int .i64 k ∧ fidx (same x) ss 0 = fidx (same x) (ss.drop k) k) (fun i => len - (intOf i).toNat)
  case atStart => exact ⟨0, Nat.zero_le _, rfl, rfl⟩
  case round =>
    obtain ⟨k, hk, rfl, hf⟩ := hrel
    have HF : Hid (fidx (same x) ss 0 = fidx (same x) (ss.drop k) k) := hf
    have HL : Hid (ss.length = len) := h.1
    clear hf
    by_cases hkn : k < len
    · obtain ⟨b, off, rfl, hc⟩ := h.2 (by omega)
      have hck := hc k hkn
      have HS : Hid (fidx (same x) (ss.drop k) k = if same x (ss.getD k ByteArray.empty) then (k : Int) else fidx (same x) (ss.drop (k + 1)) (k + 1)) := fidx_drop _ ss k (by rw [HL.out]; exact hkn)
      generalize ss.getD k ByteArray.empty = y at *
      clear hc h
      cases hxy : (x.toList == y.toList)
      · have HX : Hid (same x y = false) := hxy
        go_wp2
        go_round
        case rel => exact ⟨k + 1, by omega, by go_num, by rw [HF.out, HS.out, HX.out]; rfl⟩
        case measure => simp [intOf]; omega
      · have HX : Hid (same x y = true) := hxy
        go_wp2
        go_ret
        exact ⟨ret_int (by rw [HF.out, HS.out, HX.out]; rfl), rfl⟩
    · clear h
      go_wp2
      go_ret
      exact ⟨ret_int (by rw [HF.out, fidx_end _ _ _ (by rw [HL.out]; omega)]), rfl⟩

theorem contains_any (a : Option Addr) (len cap : Nat) (ss : List ByteArray) (x : ByteArray) (w : World) (h : Reads w a len ss) (hm : len ≤ maxLen) :
    Calls Try.prog 11 #[.slice a len cap, .string x] w fun e w' => e = .returned (.bool (has ss x)) ∧ w' = w := by
  have q := index_any a len cap ss x w h hm
  have e : decide (0 ≤ fidx (same x) ss 0) = has ss x := fidx_nonneg _ _ _
  generalize fidx (same x) ss 0 = i at q e
  have HE : Hid (decide (0 ≤ i) = has ss x) := e
  clear e h
  go_enter Try.func11, Try.ntmps11
  go_wp2_with (go_at_call 13; refine q.mono ?_; rintro e w' ⟨rfl, rfl⟩)
  go_ret
  exact ⟨ret_bool HE.out, rfl⟩

/-- The closure in Covers: 'the tag t is not among the scope's'. -/
theorem clo_any (B : Nat) (a : Option Addr) (len cap : Nat) (ss : List ByteArray) (x : ByteArray) (w : World) (h : Reads w a len ss) (hm : len ≤ maxLen) (hB : w.cell? ⟨B, 0, none⟩ = some (.slice a len cap)) :
    Calls Try.prog 10 #[.string x, .pointer (some ⟨B, 0, none⟩)] w fun e w' => e = .returned (.bool (!has ss x)) ∧ w' = w := by
  have q := contains_any a len cap ss x w h hm
  clear h
  generalize has ss x = v at q ⊢
  go_enter Try.func10, Try.ntmps10
  go_wp2_with (go_at_call 11; refine q.mono ?_; rintro e w' ⟨rfl, rfl⟩)
  go_ret
  exact ⟨rfl, rfl⟩

end Go.Proofs.Qxb6628696a
