/-
  THE PROOF OF 'Rows.FnCookbooksIgnoresRepeatsAndOtherFieldsSaid'. The frame is the kit's proof-skeleton's, turned to a slice of structs and two slices of strings; the walk is Qxb6628739aTop2.lean's.
-/
import Derived.Test.Qxb6628739aRows
import Derived.WalkKit
import Derived.ProofKit
import Derived.OpenShut
import Derived.ShutString
import Derived.ChangeOld
import Derived.Below
import Derived.Test.Qxb6628739aOpen
import Derived.Test.Qxb6628739aTop2
namespace Go.Proofs.Qxb6628739a.fnCookbooksIgnoresRepeatsAndOtherFields
open Go.ChangeShapes Go.WideShapes Go.ChangeAt Go.RowKit
set_option linter.unusedVariables false

theorem own : ownKnob Try.prog.godebug = none := by kernel_rfl
theorem laidOut : laidOutB Try.prog = true := by kernel_rfl

set_option maxRecDepth 100000 in
set_option maxHeartbeats 1000000 in
theorem walk_out (a0 : Option Addr) (len0 cap0 : Nat) (ts : List Itm) (a1 : Option Addr) (len1 cap1 : Nat) (s1 : List ByteArray) (a2 : Option Addr) (len2 cap2 : Nat) (s2 : List ByteArray) (w : World) (h0 : ReadsI w a0 len0 ts) (h1 : Reads w a1 len1 s1) (h2 : Reads w a2 len2 s2) (hm0 : len0 ≤ maxLen) (hm1 : len1 ≤ maxLen) (hm2 : len2 ≤ maxLen)
    (b0 : 1024 < len0) :
    Calls Try.prog 4 #[.slice a0 len0 cap0, .slice a1 len1 cap1, .slice a2 len2 cap2] w fun e w' => e = .returned (.bool true) ∧ Below w.heap.size w w' := by
  have c12 := bytes12_any a0 len0 cap0 ts a1 len1 cap1 s1 a2 len2 cap2 s2 w h0 h1 h2 hm0 hm1 hm2
  have c6 := size_long a0 len0 cap0 ts a1 len1 cap1 s1 a2 len2 cap2 s2 w h0 h1 h2 hm0 hm1 hm2 b0
  clear h0 h1 h2
  go_enter Try.func4, Try.ntmps4
  go_wp2_with fail
  refine c12.mono ?_
  rintro _ w' ⟨⟨b, rfl⟩, hw⟩
  obtain rfl := hw.symm
  cases b
  · clear c12 c6
    go_wp2
    go_ret
    exact ⟨rfl, Below.refl _ _⟩
  · go_wp2_with fail
    refine c6.mono ?_
    rintro _ w' ⟨rfl, hw⟩
    obtain rfl := hw.symm
    clear c12 c6
    go_wp2
    go_ret
    exact ⟨rfl, Below.refl _ _⟩

/-! ### STEP 1: THE WALK -/
theorem walk (a0 : Option Addr) (len0 cap0 : Nat) (ts : List Itm) (a1 : Option Addr) (len1 cap1 : Nat) (s1 : List ByteArray) (a2 : Option Addr) (len2 cap2 : Nat) (s2 : List ByteArray) (w : World) (h0 : ReadsI w a0 len0 ts) (h1 : Reads w a1 len1 s1) (h2 : Reads w a2 len2 s2) (hm0 : len0 ≤ maxLen) (hm1 : len1 ≤ maxLen) (hm2 : len2 ≤ maxLen) (hs : Small (books ts)) :
    Calls Try.prog 4 #[.slice a0 len0 cap0, .slice a1 len1 cap1, .slice a2 len2 cap2] w fun e w' => e = .returned (.bool true) ∧ Below w.heap.size w w' := by
  by_cases b0 : len0 ≤ 1024
  · exact top2_in a0 len0 cap0 ts a1 len1 cap1 s1 a2 len2 cap2 s2 w h0 h1 h2 hm1 hm2 hs b0
  · exact walk_out a0 len0 cap0 ts a1 len1 cap1 s1 a2 len2 cap2 s2 w h0 h1 h2 hm0 hm1 hm2 (by omega)

/-! ### THE ROW's STEP -/
set_option maxRecDepth 100000 in
theorem lifted (os : Os) (started : os.Started) (H : Type) (enc : TypeId × Value → H) :
    ReturnsInHanded {} Try.checked os 4 .any (Rows.fnCookbooksIgnoresRepeatsAndOtherFieldsSpec.pre6 enc Try.prog Try.f4 Rows.fnCookbooksIgnoresRepeatsAndOtherFieldsRow.domain false) (Rows.fnCookbooksIgnoresRepeatsAndOtherFieldsSpec.post enc Try.prog Try.f4 false true false false) := by
  refine returnsInHanded_of_change (C := Try.checked) own started (by kernel_rfl) Try.func4
    (ChangeSpec.witness6 (enc := enc) (C := Try.checked) false ⟨#[], #[.slice none 0 0, .slice none 0 0, .slice none 0 0], []⟩ 8 (by kernel_rfl) (by kernel_rfl) (by kernel_rfl) (by kernel_rfl)) ?_
  intro W base args ds gs before hval0 hW hcnd _
  have hval : ∀ (j : Nat) t v, Try.f4.params[j]? = some t → args[j]? = some v → Value.okWide Try.prog W .any base t v := hval0
  have hW' := hW
  obtain ⟨p, q, hA0, hV, rfl, hfz, hnd⟩ := hW
  have hA : DataW.TrodAll enc Try.prog W 0 (fun _ => true) true Try.f4.params.toList args.toList ds p := hA0
  rw [Try.params4] at hA hval
  obtain ⟨v0, vs0, d0, ds0, p0, q0, hargs, rfl, rfl, h0, r0⟩ := trodAll_cons hA
  obtain ⟨v1, vs1, d1, ds1, p1, q1, rfl, rfl, rfl, h1, r1⟩ := trodAll_cons r0
  obtain ⟨v2, vs2, d2, ds2, p2, q2, rfl, rfl, rfl, h2, r2⟩ := trodAll_cons r1
  obtain ⟨rfl, rfl, rfl⟩ := trodAll_nil r2
  obtain rfl : args = #[v0, v1, v2] := by cases args; simp_all
  obtain ⟨rfl, rfl⟩ := trodVars_none hV
  obtain ⟨a0, len0, cap0, rfl⟩ := okWide_slice Try.underlying22 (hval 0 22 v0 rfl rfl)
  have k0 := h0
  have lt0 : ∀ x ∈ p0, x.block < W.heap.size := by obtain ⟨m, hm⟩ := k0; exact DataW.trod_lt m _ _ _ hm
  obtain ⟨z0, w0, hs, m0⟩ := came_items h0
  obtain ⟨a1, len1, cap1, rfl⟩ := okWide_slice Try.underlying23 (hval 1 23 v1 rfl rfl)
  have k1 := h1
  have lt1 : ∀ x ∈ p1, x.block < W.heap.size := by obtain ⟨m, hm⟩ := k1; exact DataW.trod_lt m _ _ _ hm
  obtain ⟨z1, w1, m1⟩ := came_strings h1
  obtain ⟨a2, len2, cap2, rfl⟩ := okWide_slice Try.underlying23 (hval 2 23 v2 rfl rfl)
  have k2 := h2
  have lt2 : ∀ x ∈ p2, x.block < W.heap.size := by obtain ⟨m, hm⟩ := k2; exact DataW.trod_lt m _ _ _ hm
  obtain ⟨z2, w2, m2⟩ := came_strings h2
  clear hA0 hval0
  refine (walk a0 len0 cap0 z0 a1 len1 cap1 z1 a2 len2 cap2 z2 W w0 w1 w2 m0 m1 m2 hs).mono fun e W' ⟨he, bel⟩ => ?_
  subst he
  exact ⟨_, rfl, _, _, _, [], _, [], hW', trodAll_mk1 (shut_bool Try.underlying4 _), (trodAll_cons_mk (Below.trod laidOut (by kernel_rfl) (of_decide_eq_true (by kernel_rfl)) k0 bel lt0) (trodAll_cons_mk (Below.trod laidOut (by kernel_rfl) (of_decide_eq_true (by kernel_rfl)) k1 bel lt1) (trodAll_cons_mk (Below.trod laidOut (by kernel_rfl) (of_decide_eq_true (by kernel_rfl)) k2 bel lt2) trodAll_mk0))), rfl, bel.frame _, fun h => by cases h⟩

theorem over : Rows.fnCookbooksIgnoresRepeatsAndOtherFieldsRow.holds Try.pinned (OpenSpec.ofChange Rows.fnCookbooksIgnoresRepeatsAndOtherFieldsSpec) :=
  OpenClaim.holds_of_wide 4 Try.f4 rfl rfl rfl rfl rfl rfl rfl ⟨rfl, rfl, rfl, rfl, rfl⟩ rfl rfl rfl rfl rfl (by kernel_rfl) Try.func4 (by kernel_rfl)
    (of_decide_eq_true (by kernel_rfl)) (by unfold Func.isWrapper; first | (rw [if_pos (by decide +kernel)]; kernel_rfl) | (rw [if_neg (by decide +kernel)]; exact ⟨rfl, rfl⟩))
    (fun os started H enc _ => lifted os started H enc)

/-- ████ THE STATEMENT ████ -/
theorem proved : Rows.FnCookbooksIgnoresRepeatsAndOtherFieldsSaid := over
#print axioms proved
end Go.Proofs.Qxb6628739a.fnCookbooksIgnoresRepeatsAndOtherFields
