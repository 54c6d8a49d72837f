/-
  THE PROOF OF 'Rows.FnCookbooksFirstNamedOrderAtAnyCutSaid'. The frame is the kit's proof-skeleton's, turned to a slice of structs, an int and two slices of strings; the walk is Qxb6628739aTop1.lean's.
-/
import Derived.Test.Qxb6628739aRows
import Derived.WalkKit
import Derived.ProofKit
import Derived.OpenShut
import Derived.ShutString
import Derived.ChangeOld
import Derived.Below
import Derived.Test.Qxb6628739aOpen
import Derived.Test.Qxb6628739aTop1
namespace Go.Proofs.Qxb6628739a.fnCookbooksFirstNamedOrderAtAnyCut
open Go.ChangeShapes Go.WideShapes Go.ChangeAt Go.RowKit
set_option linter.unusedVariables false

theorem own : ownKnob Try.prog.godebug = none := by kernel_rfl
theorem laidOut : laidOutB Try.prog = true := by kernel_rfl

set_option maxRecDepth 100000 in
set_option maxHeartbeats 1000000 in
theorem walk_out (a0 : Option Addr) (len0 cap0 : Nat) (ts : List Itm) (cut : Int) (a1 : Option Addr) (len1 cap1 : Nat) (s1 : List ByteArray) (a2 : Option Addr) (len2 cap2 : Nat) (s2 : List ByteArray) (w : World) (h0 : ReadsI w a0 len0 ts) (h1 : Reads w a1 len1 s1) (h2 : Reads w a2 len2 s2) (hm0 : len0 ≤ maxLen) (hm1 : len1 ≤ maxLen) (hm2 : len2 ≤ maxLen) (b0 : 1024 < len0) :
    Calls Try.prog 3 #[.slice a0 len0 cap0, .int .i64 cut, .slice a1 len1 cap1, .slice a2 len2 cap2] w fun e w' => e = .returned (.bool true) ∧ Below w.heap.size w w' := by
  have c5 := bytes5_any a0 len0 cap0 ts cut a1 len1 cap1 s1 a2 len2 cap2 s2 w h0 h1 h2 hm0 hm1 hm2
  have c6 := size_long a0 len0 cap0 ts a1 len1 cap1 s1 a2 len2 cap2 s2 w h0 h1 h2 hm0 hm1 hm2 b0
  clear h0 h1 h2
  go_enter Try.func3, Try.ntmps3
  go_wp2_with fail
  refine c5.mono ?_
  rintro _ w' ⟨⟨b, rfl⟩, hw⟩
  obtain rfl := hw.symm
  cases b
  · clear c5 c6
    go_wp2
    go_ret
    exact ⟨rfl, Below.refl _ _⟩
  · go_wp2_with fail
    refine c6.mono ?_
    rintro _ w' ⟨rfl, hw⟩
    obtain rfl := hw.symm
    clear c5 c6
    go_wp2
    go_ret
    exact ⟨rfl, Below.refl _ _⟩

set_option maxRecDepth 100000 in
set_option maxHeartbeats 1000000 in
theorem walk_cut (a0 : Option Addr) (len0 cap0 : Nat) (ts : List Itm) (cut : Int) (a1 : Option Addr) (len1 cap1 : Nat) (s1 : List ByteArray) (a2 : Option Addr) (len2 cap2 : Nat) (s2 : List ByteArray) (w : World) (h0 : ReadsI w a0 len0 ts) (h1 : Reads w a1 len1 s1) (h2 : Reads w a2 len2 s2) (hm0 : len0 ≤ maxLen) (hm1 : len1 ≤ maxLen) (hm2 : len2 ≤ maxLen) (b0 : len0 ≤ 1024) (hc : cut < 0 ∨ (len0 : Int) < cut) :
    Calls Try.prog 3 #[.slice a0 len0 cap0, .int .i64 cut, .slice a1 len1 cap1, .slice a2 len2 cap2] w fun e w' => e = .returned (.bool true) ∧ Below w.heap.size w w' := by
  have c5 := bytes5_any a0 len0 cap0 ts cut a1 len1 cap1 s1 a2 len2 cap2 s2 w h0 h1 h2 hm0 hm1 hm2
  have c6 := size_any a0 len0 cap0 ts a1 len1 cap1 s1 a2 len2 cap2 s2 w h0 h1 h2 hm0 hm1 hm2 b0
  clear h0 h1 h2
  by_cases hneg : cut < 0
  · clear hc
    go_enter Try.func3, Try.ntmps3
    go_wp2_with fail
    refine c5.mono ?_
    rintro _ w' ⟨⟨b, rfl⟩, hw⟩
    obtain rfl := hw.symm
    cases b
    · clear c5 c6
      go_wp2
      go_ret
      exact ⟨rfl, Below.refl _ _⟩
    · go_wp2_with fail
      refine c6.mono ?_
      rintro _ w' ⟨⟨b, rfl⟩, hw⟩
      obtain rfl := hw.symm
      clear c5 c6
      cases b
      all_goals
        go_wp2
        go_ret
        exact ⟨rfl, Below.refl _ _⟩
  · have hpos : (len0 : Int) < cut := by omega
    clear hc
    go_enter Try.func3, Try.ntmps3
    go_wp2_with fail
    refine c5.mono ?_
    rintro _ w' ⟨⟨b, rfl⟩, hw⟩
    obtain rfl := hw.symm
    cases b
    · clear c5 c6
      go_wp2
      go_ret
      exact ⟨rfl, Below.refl _ _⟩
    · go_wp2_with fail
      refine c6.mono ?_
      rintro _ w' ⟨⟨b, rfl⟩, hw⟩
      obtain rfl := hw.symm
      clear c5 c6
      cases b
      all_goals
        go_wp2
        go_ret
        exact ⟨rfl, Below.refl _ _⟩

/-! ### STEP 1: THE WALK -/
theorem walk (a0 : Option Addr) (len0 cap0 : Nat) (ts : List Itm) (cut : Int) (a1 : Option Addr) (len1 cap1 : Nat) (s1 : List ByteArray) (a2 : Option Addr) (len2 cap2 : Nat) (s2 : List ByteArray) (w : World) (h0 : ReadsI w a0 len0 ts) (h1 : Reads w a1 len1 s1) (h2 : Reads w a2 len2 s2) (hm0 : len0 ≤ maxLen) (hm1 : len1 ≤ maxLen) (hm2 : len2 ≤ maxLen) (hs : Small (books ts)) :
    Calls Try.prog 3 #[.slice a0 len0 cap0, .int .i64 cut, .slice a1 len1 cap1, .slice a2 len2 cap2] w fun e w' => e = .returned (.bool true) ∧ Below w.heap.size w w' := by
  by_cases b0 : len0 ≤ 1024
  · by_cases hc : cut < 0 ∨ (len0 : Int) < cut
    · exact walk_cut a0 len0 cap0 ts cut a1 len1 cap1 s1 a2 len2 cap2 s2 w h0 h1 h2 hm0 hm1 hm2 b0 hc
    · obtain ⟨k, rfl⟩ : ∃ k : Nat, cut = k := ⟨cut.toNat, by omega⟩
      exact top1_in a0 len0 cap0 ts k a1 len1 cap1 s1 a2 len2 cap2 s2 w h0 h1 h2 hm1 hm2 hs b0 (by omega)
  · exact walk_out a0 len0 cap0 ts cut a1 len1 cap1 s1 a2 len2 cap2 s2 w h0 h1 h2 hm0 hm1 hm2 (by omega)

/-! ### THE ROW's STEP -/
set_option maxRecDepth 100000 in
theorem lifted (os : Os) (started : os.Started) (H : Type) (enc : TypeId × Value → H) :
    ReturnsInHanded {} Try.checked os 3 .any (Rows.fnCookbooksFirstNamedOrderAtAnyCutSpec.pre6 enc Try.prog Try.f3 Rows.fnCookbooksFirstNamedOrderAtAnyCutRow.domain false) (Rows.fnCookbooksFirstNamedOrderAtAnyCutSpec.post enc Try.prog Try.f3 false true false false) := by
  refine returnsInHanded_of_change (C := Try.checked) own started (by kernel_rfl) Try.func3
    (ChangeSpec.witness6 (enc := enc) (C := Try.checked) false ⟨#[], #[.slice none 0 0, .int .i64 0, .slice none 0 0, .slice none 0 0], []⟩ 8 (by kernel_rfl) (by kernel_rfl) (by kernel_rfl) (by kernel_rfl)) ?_
  intro W base args ds gs before hval0 hW hcnd _
  have hval : ∀ (j : Nat) t v, Try.f3.params[j]? = some t → args[j]? = some v → Value.okWide Try.prog W .any base t v := hval0
  have hW' := hW
  obtain ⟨p, q, hA0, hV, rfl, hfz, hnd⟩ := hW
  have hA : DataW.TrodAll enc Try.prog W 0 (fun _ => true) true Try.f3.params.toList args.toList ds p := hA0
  rw [Try.params3] at hA hval
  obtain ⟨v0, vs0, d0, ds0, p0, q0, hargs, rfl, rfl, h0, r0⟩ := trodAll_cons hA
  obtain ⟨v1, vs1, d1, ds1, p1, q1, rfl, rfl, rfl, h1, r1⟩ := trodAll_cons r0
  obtain ⟨v2, vs2, d2, ds2, p2, q2, rfl, rfl, rfl, h2, r2⟩ := trodAll_cons r1
  obtain ⟨v3, vs3, d3, ds3, p3, q3, rfl, rfl, rfl, h3, r3⟩ := trodAll_cons r2
  obtain ⟨rfl, rfl, rfl⟩ := trodAll_nil r3
  obtain rfl : args = #[v0, v1, v2, v3] := by cases args; simp_all
  obtain ⟨rfl, rfl⟩ := trodVars_none hV
  obtain ⟨a0, len0, cap0, rfl⟩ := okWide_slice Try.underlying22 (hval 0 22 v0 rfl rfl)
  have k0 := h0
  have lt0 : ∀ x ∈ p0, x.block < W.heap.size := by obtain ⟨m, hm⟩ := k0; exact DataW.trod_lt m _ _ _ hm
  obtain ⟨z0, w0, hs, m0⟩ := came_items h0
  obtain ⟨cut, rfl, rfl, rfl, wc⟩ := open_int Try.underlying3 (hval 1 3 v1 rfl rfl) h1
  obtain ⟨a2, len2, cap2, rfl⟩ := okWide_slice Try.underlying23 (hval 2 23 v2 rfl rfl)
  have k2 := h2
  have lt2 : ∀ x ∈ p2, x.block < W.heap.size := by obtain ⟨m, hm⟩ := k2; exact DataW.trod_lt m _ _ _ hm
  obtain ⟨z2, w2, m2⟩ := came_strings h2
  obtain ⟨a3, len3, cap3, rfl⟩ := okWide_slice Try.underlying23 (hval 3 23 v3 rfl rfl)
  have k3 := h3
  have lt3 : ∀ x ∈ p3, x.block < W.heap.size := by obtain ⟨m, hm⟩ := k3; exact DataW.trod_lt m _ _ _ hm
  obtain ⟨z3, w3, m3⟩ := came_strings h3
  clear hA0 hval0
  refine (walk a0 len0 cap0 z0 cut a2 len2 cap2 z2 a3 len3 cap3 z3 W w0 w2 w3 m0 m2 m3 hs).mono fun e W' ⟨he, bel⟩ => ?_
  subst he
  exact ⟨_, rfl, _, _, _, [], _, [], hW', trodAll_mk1 (shut_bool Try.underlying4 _), (trodAll_cons_mk (Below.trod laidOut (by kernel_rfl) (of_decide_eq_true (by kernel_rfl)) k0 bel lt0) (trodAll_cons_mk (shut_int Try.underlying3 wc) (trodAll_cons_mk (Below.trod laidOut (by kernel_rfl) (of_decide_eq_true (by kernel_rfl)) k2 bel lt2) (trodAll_cons_mk (Below.trod laidOut (by kernel_rfl) (of_decide_eq_true (by kernel_rfl)) k3 bel lt3) trodAll_mk0)))), rfl, bel.frame _, fun h => by cases h⟩

theorem over : Rows.fnCookbooksFirstNamedOrderAtAnyCutRow.holds Try.pinned (OpenSpec.ofChange Rows.fnCookbooksFirstNamedOrderAtAnyCutSpec) :=
  OpenClaim.holds_of_wide 3 Try.f3 rfl rfl rfl rfl rfl rfl rfl ⟨rfl, rfl, rfl, rfl, rfl⟩ rfl rfl rfl rfl rfl (by kernel_rfl) Try.func3 (by kernel_rfl)
    (of_decide_eq_true (by kernel_rfl)) (by unfold Func.isWrapper; first | (rw [if_pos (by decide +kernel)]; kernel_rfl) | (rw [if_neg (by decide +kernel)]; exact ⟨rfl, rfl⟩))
    (fun os started H enc _ => lifted os started H enc)

/-- ████ THE STATEMENT ████ -/
theorem proved : Rows.FnCookbooksFirstNamedOrderAtAnyCutSaid := over
#print axioms proved
end Go.Proofs.Qxb6628739a.fnCookbooksFirstNamedOrderAtAnyCut
