/-
  SEAT b6628739a: THE MAP 'seen' OF Cookbooks, as two laws for the walk: the look-up 'seen[c]' and the store 'seen[c] = true' (elements: bools).
-/
import Derived.Test.Qxb6628739aToItems
import Derived.Maps.OwnOps
import Derived.Maps.OwnSet
import Derived.Maps.Views
namespace Go.Proofs.Qxb6628739a
open Go.ChangeShapes Go.WideShapes Go.ChangeAt Go.RowKit
open Go.Maps (Keyed string_keyed IsMap isMap_empty atKey_put_same atKey_put_other)
open Go.Proofs.Qxb6628739a.Plain
set_option linter.unusedVariables false

theorem law : Keyed Try.prog 9 := string_keyed Try.underlying9
theorem zeroB (w : World) : (zeroValue 4).run Try.prog w = .ok (.bool false) w := by kernel_rfl

theorem plainElem_bool_inv {H : Type} {P : Program} {e : TypeId} (he : P.underlying e = some .bool) {v : Value} {z : DataW H × List MemPlace} (h : plainElem P e v = some z) : ∃ x, v = .bool x ∧ z = (.lit (.bool x), []) := by
  unfold plainElem at h
  rw [he] at h
  cases v <;> simp at h
  exact ⟨_, rfl, h.symm⟩

/-- Block M is the map 'seen', of at most n entries: it says true of just the cookbooks cb. -/
def Seen (w : World) (M n : Nat) (cb : List ByteArray) : Prop :=
  ∃ D : DataW Unit, w.ownsMap Try.prog 9 (plainElem Try.prog 4) M n D ∧ IsMap D ∧ ∀ x : ByteArray, D.atKey (.string x.data.toList) (.lit (.bool false)) = .lit (.bool (has cb x))

theorem seen_made (w : World) : Seen (w.alloc (.map #[] 0)) w.heap.size 0 [] :=
  ⟨_, World.ownsMap_made w Try.prog 9 _, isMap_empty, fun x => rfl⟩

theorem Seen.kept {w w' : World} {M n : Nat} {cb : List ByteArray} {row : Option Nat} (h : Seen w M n cb) (hg : w.grownBy w' row) (hne : some M ≠ row) : Seen w' M n cb := by
  obtain ⟨D, h1, h2, h3⟩ := h
  exact ⟨D, h1.kept hg hne, h2, h3⟩

theorem Seen.alloc {w : World} {M n : Nat} {cb : List ByteArray} (h : Seen w M n cb) (o : Obj) : Seen (w.alloc o) M n cb := h.kept (World.grownBy_alloc w o none) (by simp)

theorem Seen.mono {w : World} {M n n' : Nat} {cb : List ByteArray} (h : Seen w M n cb) (hn : n ≤ n') : Seen w M n' cb := by
  obtain ⟨D, h1, h2, h3⟩ := h
  exact ⟨D, h1.mono hn, h2, h3⟩

theorem Seen.lt {w : World} {M n : Nat} {cb : List ByteArray} (h : Seen w M n cb) : M < w.heap.size := by
  obtain ⟨D, h1, _⟩ := h
  exact h1.lt

theorem wpList_seen (w : World) {ops : Array Oper} {rest : List Oper} {o : Oper} {a : Act} {Q : Exit → Act → World → Prop}
    (hg : o.guard = none) (m x : Operand) (hop : o.op = Op.lookup 39 m x false) (M n : Nat) (cb : List ByteArray) (s : ByteArray)
    (hm : a.eval m = .map (some M)) (hown : Seen w M n cb) (hx : a.eval x = .string s) (hs : s.size ≤ maxLen) (v : Bool) (hv : has cb s = v)
    (hK : wpList Try.prog ops Q rest (a.put o.dst (.bool v)) w) :
    wpList Try.prog ops Q (o :: rest) a w := by
  obtain ⟨D, h1, h2, h3⟩ := hown
  refine wpList_plain hg fun K' hK' => ?_
  obtain ⟨u, ps, hrun, hu⟩ := h1.lookup law Try.underlying39 (zeroB w) (plainElem_bool Try.underlying4 false) (Go.WideMaps.keyOf_string_mk Try.underlying9 hs)
  rw [h3 s, hv] at hu
  obtain ⟨c, rfl, hc⟩ := plainElem_bool_inv Try.underlying4 hu
  simp only [Prod.mk.injEq, DataW.lit.injEq, Lit.bool.injEq] at hc
  obtain ⟨rfl, _⟩ := hc
  unfold Oper.wp
  simp [execOp, hop, hm, hx, hrun, Result.andThen]
  exact hK' _ _ hK

theorem wpList_mark (w : World) {ops : Array Oper} {rest : List Oper} {o : Oper} {a : Act} {Q : Exit → Act → World → Prop}
    (hg : o.guard = none) (m x v : Operand) (hop : o.op = Op.mapUpdate 39 m x v) (M n : Nat) (cb : List ByteArray) (s : ByteArray)
    (hm : a.eval m = .map (some M)) (hown : Seen w M n cb) (hx : a.eval x = .string s) (hv : a.eval v = .bool true) (hs : s.size ≤ maxLen) (hn : n < maxLen)
    (hK : ∀ w', Seen w' M (n + 1) (cb ++ [s]) → w.grownBy w' (some M) → wpList Try.prog ops Q rest (a.put o.dst undef) w') :
    wpList Try.prog ops Q (o :: rest) a w := by
  obtain ⟨D, h1, h2, h3⟩ := hown
  refine wpList_mapUpdate_own w hg m x v 39 hop 9 4 law Try.underlying39 (plainElem Try.prog 4) M n D hm h1 hn (.string s) (.bool true) (.string s.data.toList) hx hv (Go.WideMaps.keyOf_string_mk Try.underlying9 hs) (.lit (.bool true)) [] (plainElem_bool Try.underlying4 true) ?_
  intro w' h1' hgr
  refine hK w' ⟨_, h1', h2.put _ _, fun y => ?_⟩ hgr
  by_cases hy : y = s
  · subst hy
    rw [atKey_put_same h2 (show WideAt.IsKeyLit (.string y.data.toList) from trivial)]
    have : has (cb ++ [y]) y = true := has_iff.2 (by simp)
    rw [this]
  · have hne : (Lit.string y.data.toList) ≠ .string s.data.toList := by
      intro e
      have e1 := Lit.string.inj e
      apply hy
      cases y; cases s
      congr
      exact Array.toList_inj.1 e1
    rw [atKey_put_other hne, h3 y, has_append]
    have : has [s] y = false := has_false.2 (by simpa using hy)
    rw [this, Bool.or_false]

end Go.Proofs.Qxb6628739a
