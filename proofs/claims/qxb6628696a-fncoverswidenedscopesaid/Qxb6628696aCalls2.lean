/-
  SEAT b6628696a: THE CALLEES' CONTRACTS, the second part: slices.IndexFunc and ContainsFunc at Covers' closure; Scope.Covers.
-/
import Derived.Test.Qxb6628696aCalls
namespace Go.Proofs.Qxb6628696a
open Go.ChangeShapes Go.WideShapes Go.ChangeAt Go.RowKit
open Go.Proofs.Qxb6628696a.Plain
set_option linter.unusedVariables false

theorem indexFunc_any (B : Nat) (a0 : Option Addr) (len0 cap0 : Nat) (s : List ByteArray) (a : Option Addr) (len cap : Nat) (o : List ByteArray) (w : World) (h0 : Reads w a0 len0 s) (h : Reads w a len o) (hm0 : len0 ≤ maxLen) (hm : len ≤ maxLen)
    (hB : w.cell? ⟨B, 0, none⟩ = some (.slice a0 len0 cap0)) :
    Calls Try.prog 12 #[.slice a len cap, .func (.func 10) #[] #[.pointer (some ⟨B, 0, none⟩)]] w fun e w' => e = .returned (.int .i64 (fidx (fun t => !has s t) o 0)) ∧ w' = w := by
  unfold maxLen at hm
  have q := fun x => clo_any B a0 len0 cap0 s x w h0 hm0 hB
  clear h0 hB hm0
  obtain ⟨p, hp⟩ : ∃ p : ByteArray → Bool, p = fun t => !has s t := ⟨_, rfl⟩
  have q' : ∀ x, Calls Try.prog 10 #[.string x, .pointer (some ⟨B, 0, none⟩)] w fun e w' => e = .returned (.bool (p x)) ∧ w' = w := by rw [hp]; exact q
  rw [← hp]
  clear q hp
  go_enter Try.func12, Try.ntmps12
  go_wp2
  go_loop [8] (fun i => ∃ k : Nat, k ≤ len ∧ i = .int .i64 k ∧ fidx p o 0 = fidx p (o.drop k) k) (fun i => len - (intOf i).toNat)
  case atStart => exact ⟨0, Nat.zero_le _, rfl, rfl⟩
  case round =>
    obtain ⟨k, hk, rfl, hf⟩ := hrel
    have HF : Hid (fidx p o 0 = fidx p (o.drop k) k) := hf
    have HL : Hid (o.length = len) := h.1
    clear hf
    by_cases hkn : k < len
    · obtain ⟨b, off, rfl, hc⟩ := h.2 (by omega)
      have hck := hc k hkn
      have HS : Hid (fidx p (o.drop k) k = if p (o.getD k ByteArray.empty) then (k : Int) else fidx p (o.drop (k + 1)) (k + 1)) := fidx_drop _ o k (by rw [HL.out]; exact hkn)
      generalize o.getD k ByteArray.empty = y at *
      clear hc h
      have qy := q' y
      clear q'
      generalize hpy : p y = v at *
      have HX : Hid (p y = v) := hpy
      clear hpy
      cases v
      · go_wp2_with (go_at_call 10; refine qy.mono ?_; rintro e w' ⟨rfl, rfl⟩)
        go_round
        case rel => exact ⟨k + 1, by omega, by go_num, by rw [HF.out, HS.out]; rfl⟩
        case measure => simp [intOf]; omega
      · go_wp2_with (go_at_call 10; refine qy.mono ?_; rintro e w' ⟨rfl, rfl⟩)
        go_ret
        exact ⟨ret_int (by rw [HF.out, HS.out]; rfl), rfl⟩
    · clear h q'
      go_wp2
      go_ret
      exact ⟨ret_int (by rw [HF.out, fidx_end _ _ _ (by rw [HL.out]; omega)]), rfl⟩

theorem containsFunc_any (B : Nat) (a0 : Option Addr) (len0 cap0 : Nat) (s : List ByteArray) (a : Option Addr) (len cap : Nat) (o : List ByteArray) (w : World) (h0 : Reads w a0 len0 s) (h : Reads w a len o) (hm0 : len0 ≤ maxLen) (hm : len ≤ maxLen)
    (hB : w.cell? ⟨B, 0, none⟩ = some (.slice a0 len0 cap0)) :
    Calls Try.prog 9 #[.slice a len cap, .func (.func 10) #[] #[.pointer (some ⟨B, 0, none⟩)]] w fun e w' => e = .returned (.bool (miss s o)) ∧ w' = w := by
  have q := indexFunc_any B a0 len0 cap0 s a len cap o w h0 h hm0 hm hB
  have e : decide (0 ≤ fidx (fun t => !has s t) o 0) = miss s o := fidx_nonneg _ _ _
  generalize fidx (fun t => !has s t) o 0 = i at q e
  have HE : Hid (decide (0 ≤ i) = miss s o) := e
  clear e h h0 hB
  go_enter Try.func9, Try.ntmps9
  go_wp2_with (go_at_call 12; refine q.mono ?_; rintro e w' ⟨rfl, rfl⟩)
  go_ret
  exact ⟨ret_bool HE.out, rfl⟩

theorem Reads.below {w w1 : World} {a : Option Addr} {len : Nat} {ss : List ByteArray} (h : Reads w a len ss) (hb : Below w.heap.size w w1) : Reads w1 a len ss := by
  refine ⟨h.1, fun hl => ?_⟩
  obtain ⟨b, off, rfl, hc⟩ := h.2 hl
  exact ⟨b, off, rfl, fun i hi => cell_later hb (hc i hi)⟩

theorem Reads.nil (w : World) : Reads w none 0 [] := ⟨rfl, fun h => absurd h (by omega)⟩

theorem covers_any (a0 : Option Addr) (len0 cap0 : Nat) (s : List ByteArray) (a : Option Addr) (len cap : Nat) (o : List ByteArray) (w : World) (h0 : Reads w a0 len0 s) (h : Reads w a len o) (hm0 : len0 ≤ maxLen) (hm : len ≤ maxLen) :
    Calls Try.prog 7 #[.agg #[.slice a0 len0 cap0], .agg #[.slice a len cap]] w fun e w' => e = .returned (.bool (covers a0.isNone s a.isNone o)) ∧ Below w.heap.size w w' := by
  have n1 := fun wx a n c => run_neq_slice_nil_any (P := Try.prog) wx 22 9 a n c 0 0 Try.underlying22
  have n2 := fun wx a n c => Lib.run_eql_slice_nil (P := Try.prog) wx 22 9 a n c 0 0 Try.underlying22
  cases a0 with
  | none =>
    go_enter Try.func7, Try.ntmps7
    go_wp2
    go_ret
    exact ⟨rfl, ((Below.refl _ _).alloc (Nat.le_refl _) _).alloc (by simp) _⟩
  | some ad0 =>
    cases a with
    | none =>
      go_enter Try.func7, Try.ntmps7
      go_wp2
      go_ret
      exact ⟨rfl, ((Below.refl _ _).alloc (Nat.le_refl _) _).alloc (by simp) _⟩
    | some ad =>
      have hb : Below w.heap.size w ((w.alloc (.cells #[.slice (some ad0) len0 cap0] 26)).alloc (.cells #[.slice (some ad) len cap] 26)) := ((Below.refl _ _).alloc (Nat.le_refl _) _).alloc (by simp) _
      have hcell : ((w.alloc (.cells #[.slice (some ad0) len0 cap0] 26)).alloc (.cells #[.slice (some ad) len cap] 26)).cell? ⟨w.heap.size, 0, none⟩ = some (.slice (some ad0) len0 cap0) := by
        rw [World.cell?_alloc_lt _ _ _ (by simp)]
        simp
      have q := containsFunc_any w.heap.size (some ad0) len0 cap0 s (some ad) len cap o _ (h0.below hb) (h.below hb) hm0 hm hcell
      have HB : Hid (Below w.heap.size w ((w.alloc (.cells #[.slice (some ad0) len0 cap0] 26)).alloc (.cells #[.slice (some ad) len cap] 26))) := hb
      clear h0 h hb hcell
      have hcv : covers (some ad0).isNone s (some ad).isNone o = !miss s o := rfl
      rw [hcv]
      clear hcv
      generalize miss s o = v at q ⊢
      go_enter Try.func7, Try.ntmps7
      go_wp2_with (go_at_call 9; refine q.mono ?_; rintro e w' ⟨rfl, rfl⟩)
      go_ret
      exact ⟨rfl, HB.out⟩

end Go.Proofs.Qxb6628696a
