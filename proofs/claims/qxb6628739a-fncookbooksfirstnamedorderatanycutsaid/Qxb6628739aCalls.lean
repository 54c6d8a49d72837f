/-
  SEAT b6628739a: THE CALLEES' CONTRACTS: cbHas, cbFirst, cbEq.
-/
import Derived.Test.Qxb6628739aRows
import Derived.Test.Qxb6628739aPlain
import Derived.WalkKit
import Derived.ProofKit
import Derived.Below
import Derived.WalkSpells
import Derived.WalkLawsBesides
import Derived.Deep.QuietTactic
import Derived.BigQuiet
import Derived.Deep.RegionWith
namespace Go.Proofs.Qxb6628739a
open Go.ChangeShapes Go.WideShapes Go.ChangeAt Go.RowKit
open Go.Proofs.Qxb6628739a.Plain
set_option linter.unusedVariables false

/-- The slice value at 'a', of 'len' elements, reads as the strings ss in the world w. -/
def Reads (w : World) (a : Option Addr) (len : Nat) (ss : List ByteArray) : Prop :=
  ss.length = len ∧ (0 < len → ∃ b off, a = some ⟨b, off, none⟩ ∧ ∀ i, i < len → w.cell? ⟨b, off + i, none⟩ = some (.string (ss.getD i ByteArray.empty)))

/-- A run-list item, as Go's struct holds it. -/
structure Itm where
  kind : Int
  role : ByteArray
  book : ByteArray
  recipe : ByteArray

def Itm.none : Itm := ⟨0, ⟨#[]⟩, ⟨#[]⟩, ⟨#[]⟩⟩

/-- The slice value at 'a', of 'len' items of four cells each, reads as the items. -/
def ReadsI (w : World) (a : Option Addr) (len : Nat) (ts : List Itm) : Prop :=
  ts.length = len ∧ (0 < len → ∃ b off, a = some ⟨b, off, none⟩ ∧ ∀ i, i < len →
    w.cell? ⟨b, off + i * 4, none⟩ = some (.int .i64 (ts.getD i Itm.none).kind) ∧ w.cell? ⟨b, off + i * 4 + 1, none⟩ = some (.string (ts.getD i Itm.none).role) ∧
    w.cell? ⟨b, off + i * 4 + 2, none⟩ = some (.string (ts.getD i Itm.none).book) ∧ w.cell? ⟨b, off + i * 4 + 3, none⟩ = some (.string (ts.getD i Itm.none).recipe))

/-- The cookbooks of the items. -/
def books (ts : List Itm) : List ByteArray := ts.map Itm.book

theorem books_length (ts : List Itm) : (books ts).length = ts.length := by simp [books]
theorem books_getD (ts : List Itm) (i : Nat) (h : i < ts.length) : (books ts).getD i ByteArray.empty = (ts.getD i Itm.none).book := by
  simp [books, List.getD, h]

theorem ret_int {k : IntKind} {a b : Int} (h : a = b) : Ending.returned (.int k a) = .returned (.int k b) := by rw [h]
theorem ret_bool {a b : Bool} (h : a = b) : Ending.returned (.bool a) = .returned (.bool b) := by rw [h]

theorem has_drop (ss : List ByteArray) (x : ByteArray) (k : Nat) (h : k < ss.length) : has (ss.drop k) x = (((ss.getD k ByteArray.empty).toList == x.toList) || has (ss.drop (k + 1)) x) := by
  rw [List.drop_eq_getElem_cons h]
  simp only [has, List.any_cons, List.getD, List.getElem?_eq_getElem h, Option.getD_some]

theorem has_any (a : Option Addr) (len cap : Nat) (ss : List ByteArray) (x : ByteArray) (w : World) (h : Reads w a len ss) (hm : len ≤ maxLen) :
    Calls Try.prog 9 #[.slice a len cap, .string x] w fun e w' => e = .returned (.bool (has ss x)) ∧ w' = w := by
  unfold maxLen at hm
  go_enter Try.func9, Try.ntmps9
  go_wp2
  go_loop [5] (fun i => ∃ k : Nat, k ≤ len ∧ i = .int .i64 k ∧ has ss x = has (ss.drop k) x) (fun i => len - (intOf i).toNat)
  case atStart => exact ⟨0, Nat.zero_le _, rfl, rfl⟩
  case round =>
    obtain ⟨k, hk, rfl, hf⟩ := hrel
    have HF : Hid (has ss x = has (ss.drop k) x) := hf
    have HL : Hid (ss.length = len) := h.1
    clear hf
    by_cases hkn : k < len
    · obtain ⟨b, off, rfl, hc⟩ := h.2 (by omega)
      have hck := hc k hkn
      have HS : Hid (has (ss.drop k) x = (((ss.getD k ByteArray.empty).toList == x.toList) || has (ss.drop (k + 1)) x)) := has_drop ss x k (by rw [HL.out]; exact hkn)
      generalize ss.getD k ByteArray.empty = y at *
      clear hc h
      cases hxy : (y.toList == x.toList)
      · have HX : Hid ((y.toList == x.toList) = false) := hxy
        go_wp2
        go_round
        case rel => exact ⟨k + 1, by omega, by go_num, by rw [HF.out, HS.out, HX.out]; rfl⟩
        case measure => simp [intOf]; omega
      · have HX : Hid ((y.toList == x.toList) = true) := hxy
        go_wp2
        go_ret
        exact ⟨ret_bool (by rw [HF.out, HS.out, HX.out]; rfl), rfl⟩
    · clear h
      go_wp2
      go_ret
      exact ⟨ret_bool (by rw [HF.out, List.drop_eq_nil_of_le (by rw [HL.out]; omega)]; rfl), rfl⟩

theorem first_any (a : Option Addr) (len cap : Nat) (ts : List Itm) (c : ByteArray) (w : World) (h : ReadsI w a len ts) (hm : len ≤ maxLen) :
    Calls Try.prog 10 #[.slice a len cap, .string c] w fun e w' => e = .returned (.int .i64 (fst (books ts) c)) ∧ w' = w := by
  unfold maxLen at hm
  unfold fst
  obtain ⟨p, hp⟩ : ∃ p : ByteArray → Bool, p = fun y => y.toList == c.toList := ⟨_, rfl⟩
  have HP : Hid (p = fun y => y.toList == c.toList) := hp
  rw [← hp]
  clear hp
  go_enter Try.func10, Try.ntmps10
  go_wp2
  go_loop [5] (fun i => ∃ k : Nat, k ≤ len ∧ i = .int .i64 k ∧ fidx p (books ts) 0 = fidx p ((books ts).drop k) k) (fun i => len - (intOf i).toNat)
  case atStart => exact ⟨0, Nat.zero_le _, rfl, rfl⟩
  case round =>
    obtain ⟨k, hk, rfl, hf⟩ := hrel
    have HF : Hid (fidx p (books ts) 0 = fidx p ((books ts).drop k) k) := hf
    have HL : Hid ((books ts).length = len) := by show _ = _; rw [books_length]; exact h.1
    clear hf
    by_cases hkn : k < len
    · obtain ⟨b, off, rfl, hc⟩ := h.2 (by omega)
      have hck := (hc k hkn).2.2.1
      have HS : Hid (fidx p ((books ts).drop k) k = if p ((ts.getD k Itm.none).book) then (k : Int) else fidx p ((books ts).drop (k + 1)) (k + 1)) := by
        show _ = _
        rw [fidx_drop _ _ k (by rw [HL.out]; exact hkn), books_getD _ _ (by rw [h.1]; exact hkn)]
      generalize (ts.getD k Itm.none).book = y at *
      clear hc h
      cases hxy : (y.toList == c.toList)
      · have HX : Hid (p y = false) := by show p y = false; rw [HP.out]; exact hxy
        go_wp2
        go_round
        case rel => exact ⟨k + 1, by omega, by go_num, by rw [HF.out, HS.out, HX.out]; rfl⟩
        case measure => simp [intOf]; omega
      · have HX : Hid (p y = true) := by show p y = true; rw [HP.out]; exact hxy
        go_wp2
        go_ret
        exact ⟨ret_int (by rw [HF.out, HS.out, HX.out]; rfl), rfl⟩
    · clear h
      go_wp2
      go_ret
      exact ⟨ret_int (by rw [HF.out, fidx_end _ _ _ (by rw [HL.out]; omega)]), rfl⟩

theorem take_eq_succ {a b : List ByteArray} {k : Nat} (ha : k < a.length) (hb : k < b.length) (h : a.take k = b.take k) (hx : a.getD k ByteArray.empty = b.getD k ByteArray.empty) : a.take (k + 1) = b.take (k + 1) := by
  simp only [List.getD, List.getElem?_eq_getElem ha, List.getElem?_eq_getElem hb, Option.getD_some] at hx
  rw [List.take_succ_eq_append_getElem ha, List.take_succ_eq_append_getElem hb, h, hx]

theorem eqS_ne {a b : List ByteArray} (h : a ≠ b) : eqS a b = false := decide_eq_false h

theorem eq_any (a0 : Option Addr) (len0 cap0 : Nat) (v : List ByteArray) (a1 : Option Addr) (len1 cap1 : Nat) (u : List ByteArray) (w : World) (h0 : Reads w a0 len0 v) (h1 : Reads w a1 len1 u) (b0 : len0 ≤ maxLen) (b1 : len1 ≤ maxLen) :
    Calls Try.prog 11 #[.slice a0 len0 cap0, .slice a1 len1 cap1] w fun e w' => e = .returned (.bool (eqS v u)) ∧ ∃ n, w' = w.drewN n := by
  unfold maxLen at b0 b1
  by_cases hl : len0 = len1
  · subst hl
    go_enter Try.func11, Try.ntmps11
    go_wp2
    go_loopw [5] (fun i wr => ∃ k nq : Nat, k ≤ len0 ∧ i = .int .i64 k ∧ v.take k = u.take k ∧ wr = w.drewN nq) (fun i _ => len0 - (intOf i).toNat)
    case atStart => exact ⟨0, 0, Nat.zero_le _, rfl, rfl, rfl⟩
    case round =>
      obtain ⟨k, nq, hk, rfl, hd, rfl⟩ := hrel
      have HD : Hid (v.take k = u.take k) := hd
      have HL : Hid (v.length = len0) := h0.1
      have HL1 : Hid (u.length = len0) := h1.1
      clear hd
      by_cases hk0 : k < len0
      · obtain ⟨bb, off, rfl, hcell⟩ := h0.2 (by omega)
        have hck := (hcell k hk0)
        obtain ⟨bb1, off1, rfl, hcell1⟩ := h1.2 (by omega)
        have hck1 := (hcell1 k hk0)
        have HS : Hid (v.getD k ByteArray.empty = u.getD k ByteArray.empty → v.take (k + 1) = u.take (k + 1)) := take_eq_succ (by rw [HL.out]; exact hk0) (by rw [HL1.out]; exact hk0) HD.out
        have HN : Hid (v.getD k ByteArray.empty ≠ u.getD k ByteArray.empty → eqS v u = false) := fun h => eqS_ne (fun e => h (by rw [e]))
        clear hcell hcell1 h0 h1
        generalize v.getD k ByteArray.empty = x at *
        generalize u.getD k ByteArray.empty = y at *
        have i0 : (k : Int) < (len0 : Int) := by omega
        cases hxy : (x.toList == y.toList)
        · have hxy' : (x.toList != y.toList) = true := by simp [bne, hxy]
          have HX : Hid (x ≠ y) := fun e => by rw [(same_iff x y).2 e] at hxy; cases hxy
          go_wp2
          go_quiet (fail)
          go_wp2
          go_ret
          exact ⟨ret_bool (HN.out HX.out).symm, _, World.drewN_drewN _ _ _⟩
        · have hxy' : (x.toList != y.toList) = false := by simp [bne, hxy]
          have HX : Hid (x = y) := (same_iff x y).1 hxy
          go_wp2
          go_quiet (fail)
          go_wp2
          go_roundw
          case rel => exact ⟨k + 1, _, by omega, by go_num, HS.out HX.out, rfl⟩
          case measure => simp [intOf]; omega
      · obtain rfl : k = len0 := by omega
        clear h0 h1
        go_wp2
        go_ret
        refine ⟨ret_bool ?_, _, rfl⟩
        have := HD.out
        rw [List.take_of_length_le (by rw [HL.out]; omega), List.take_of_length_le (by rw [HL1.out]; omega)] at this
        rw [this]
        exact (decide_eq_true rfl).symm
  · have hl' : ((len0 : Int) == (len1 : Int)) = false := by simp; omega
    have hl'' : ((len0 : Int) != (len1 : Int)) = true := by simp [bne, hl']
    have HE : Hid (eqS v u = false) := eqS_ne (fun e => hl (by rw [← h0.1, ← h1.1, e]))
    clear h0 h1
    go_enter Try.func11, Try.ntmps11
    go_wp2
    go_ret
    exact ⟨ret_bool HE.out.symm, 0, rfl⟩

end Go.Proofs.Qxb6628739a
