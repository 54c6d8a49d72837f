/-
  SEAT b6628696a: the walk of FnCoversReflexiveAndSplitsAtAnyCut.
-/
import Derived.Test.Qxb6628696aGuards
import Derived.Deep.DeepCutAuto
namespace Go.Proofs.Qxb6628696a
open Go.ChangeShapes Go.WideShapes Go.ChangeAt Go.RowKit
open Go.Proofs.Qxb6628696a.Plain
set_option linter.unusedVariables false

/-- A slice that came in: it reads as ss; nil only at length 0. -/
structure Came (w : World) (a : Option Addr) (len cap : Nat) (ss : List ByteArray) : Prop where
  reads : Reads w a len ss
  nil : a = none → len = 0 ∧ cap = 0
  lc : len ≤ cap
  max : cap ≤ maxLen

set_option maxHeartbeats 1000000 in
theorem top1_out (a0 : Option Addr) (len0 cap0 : Nat) (s : List ByteArray) (a1 : Option Addr) (len1 cap1 : Nat) (o : List ByteArray) (k : Int) (w : World) (k0 : Came w a0 len0 cap0 s) (k1 : Came w a1 len1 cap1 o)
    (hk : ¬ (len0 ≤ 4096 ∧ len1 ≤ 4096 ∧ 0 ≤ k ∧ k ≤ len1)) :
    Calls Try.prog 3 #[.slice a0 len0 cap0, .slice a1 len1 cap1, .int .i64 k] w fun e w' => e = .returned (.bool true) ∧ Below w.heap.size w w' := by
  have m0 : len0 ≤ maxLen := Nat.le_trans k0.lc k0.max
  have m1 : len1 ≤ maxLen := Nat.le_trans k1.lc k1.max
  have c5 := bytes5_any a0 len0 cap0 s a1 len1 cap1 o k w k0.reads k1.reads m0 m1
  have c6 := fun t => addBytes_any t a0 len0 cap0 s w k0.reads m0
  have c6' := fun t => addBytes_any t a1 len1 cap1 o w k1.reads m1
  unfold maxLen at m0 m1
  clear k0 k1
  by_cases h0 : len0 ≤ 4096
  · by_cases h1 : len1 ≤ 4096
    · by_cases h2 : 0 ≤ k
      · have h3 : (len1 : Int) < k := by omega
        clear hk
        go_enter Try.func3, Try.ntmps3
        go_wp2_with fail
        refine c5.mono ?_
        rintro e w' ⟨⟨b, rfl⟩, hw⟩
        obtain rfl := hw.symm
        cases b
        · go_wp2
          go_ret
          exact ⟨rfl, Below.refl _ _⟩
        · go_wp2_with fail
          refine (c6 _).mono ?_
          rintro e w' ⟨⟨n, rfl⟩, hw⟩
          obtain rfl := hw.symm
          go_wp2_with fail
          refine (c6' _).mono ?_
          rintro e w' ⟨⟨n', rfl⟩, hw⟩
          obtain rfl := hw.symm
          go_wp2
          all_goals
            go_ret
            exact ⟨rfl, Below.refl _ _⟩
      · have h3 : k < 0 := by omega
        clear hk h2
        go_enter Try.func3, Try.ntmps3
        go_wp2_with fail
        refine c5.mono ?_
        rintro e w' ⟨⟨b, rfl⟩, hw⟩
        obtain rfl := hw.symm
        cases b
        · go_wp2
          go_ret
          exact ⟨rfl, Below.refl _ _⟩
        · go_wp2_with fail
          refine (c6 _).mono ?_
          rintro e w' ⟨⟨n, rfl⟩, hw⟩
          obtain rfl := hw.symm
          go_wp2_with fail
          refine (c6' _).mono ?_
          rintro e w' ⟨⟨n', rfl⟩, hw⟩
          obtain rfl := hw.symm
          go_wp2
          all_goals
            go_ret
            exact ⟨rfl, Below.refl _ _⟩
    · clear hk
      go_enter Try.func3, Try.ntmps3
      go_wp2_with fail
      refine c5.mono ?_
      rintro e w' ⟨⟨b, rfl⟩, hw⟩
      obtain rfl := hw.symm
      cases b
      all_goals
        go_wp2
        go_ret
        exact ⟨rfl, Below.refl _ _⟩
  · clear hk
    go_enter Try.func3, Try.ntmps3
    go_wp2_with fail
    refine c5.mono ?_
    rintro e w' ⟨⟨b, rfl⟩, hw⟩
    obtain rfl := hw.symm
    cases b
    all_goals
      go_wp2
      go_ret
      exact ⟨rfl, Below.refl _ _⟩

end Go.Proofs.Qxb6628696a
