/-
  SEAT b6628659a: 'zzc := make([]uint64, len(v)); copy(zzc, v)' as two laws for the walk, and small facts on 'Reads'.
-/
import Derived.Test.Qxb6628659aCalls2
import Derived.Laws.CopyOwn
import Derived.Deep.DeepCutAuto
namespace Go.Proofs.Qxb6628659a
open Go.ChangeShapes Go.WideShapes Go.ChangeAt Go.RowKit
open Go.Proofs.Qxb6628659a.Plain
set_option linter.unusedVariables false

theorem Try.info27 : (Try.prog.info? 27).map (fun i => (i.zero, i.size, i.bytes)) = some (some (.int .u64 0), 1, 8) := by kernel_rfl

theorem Reads.below {w w1 : World} {a : Option Addr} {len : Nat} {zs : List Int} (h : Reads w a len zs) (hb : Below w.heap.size w w1) : Reads w1 a len zs := by
  refine ⟨h.1, fun hl => ?_⟩
  obtain ⟨b, off, rfl, hc⟩ := h.2 hl
  exact ⟨b, off, rfl, fun i hi => cell_later hb (hc i hi)⟩

theorem Reads.nil (w : World) : Reads w none 0 [] := ⟨rfl, fun h => absurd h (by omega)⟩

/-- A row of the call's own reads as the numbers that it owns. -/
theorem reads_own {w : World} {base : Nat} {a : Option Addr} {n cap : Nat} {zs : List Int} (h : w.ownsRow base 27 1 (.slice a n cap) n (zs.map (Value.int .u64))) : Reads w a n zs := by
  obtain ⟨hl, h⟩ := h
  have hl' : zs.length = n := by simpa using hl
  refine ⟨hl', fun hn => ?_⟩
  rcases h with ⟨_, rfl⟩ | ⟨g, cap', cur, hv, hg, hh, h1, h2, h3, h4⟩
  · omega
  · simp only [Value.slice.injEq] at hv
    obtain ⟨rfl, _, rfl⟩ := hv
    refine ⟨g, 0, rfl, fun i hi => ?_⟩
    have e : cur[i]? = some (.int .u64 (zs.getD i 0)) := by
      have h5 : (cur.toList.take (n * 1))[i]? = (zs.map (Value.int .u64))[i]? := by rw [h4]
      rw [List.getElem?_take, if_pos (by omega)] at h5
      rw [Array.getElem?_toList] at h5
      rw [h5]
      simp [List.getD, hl' ▸ hi]
    simp [World.cell?, hh, e]

/-- 'copy(zzc, v)', zzc a new row as long as v. -/
theorem wpList_copy_reads {w : World} {ops : Array Oper} {rest : List Oper} {o : Oper} {a : Act} {Q : Exit → Act → World → Prop} (hgd : o.guard = none) (d s : Operand)
    (ho : o.op = .call { callee := .builtin .copy, args := #[d, s], argTypes := #[22, 22] })
    (g n sCap : Nat) (sp : Option Addr) (hd : a.eval d = .slice (some ⟨g, 0, none⟩) n n) (hs : a.eval s = .slice sp n sCap) (xs : List Value)
    (B : Nat) (w0 : World) (hown : w.ownsRow B 27 1 (.slice (some ⟨g, 0, none⟩) n n) n xs) (v : List Int) (hr : Reads w sp n v) (hb : Below B w0 w)
    (h : ∀ w', Reads w' (some ⟨g, 0, none⟩) n v → Below B w0 w' → wpList Try.prog ops Q rest (a.put o.dst (goInt n)) w') :
    wpList Try.prog ops Q (o :: rest) a w := by
  obtain ⟨hl, hr2⟩ := hr
  obtain ⟨hlx, hown⟩ := hown
  rcases hown with ⟨hv, _⟩ | ⟨g', cap', cur, hv, hg, hh, h1, h2, h3, h4⟩
  · simp at hv
  · simp only [Value.slice.injEq, Option.some.injEq, Addr.mk.injEq] at hv
    obtain ⟨⟨rfl, _, _⟩, _, rfl⟩ := hv
    refine wpList_copy_splice hgd d s 22 22 ho 27 Try.underlying22 (by kernel_rfl) _ _ n n n sCap hd hs g 0 cur.toList 27 (by simpa using hh) (v.map (Value.int .u64)) (by simp [hl]) ?_ (by simp [hl]; omega) (ints_oneCell _ _) B w0 hb hg ?_
    · intro hp
      obtain ⟨b, off, rfl, hc⟩ := hr2 (by simpa [hl] using hp)
      refine ⟨rfl, _, rfl, fun j u hj => ?_⟩
      have hjl : j < n := by
        have := (List.getElem?_eq_some_iff.1 hj).1
        simpa [hl] using this
      have e : (v.map (Value.int .u64))[j]? = some (.int .u64 (v.getD j 0)) := by simp [List.getD, hl ▸ hjl]
      rw [e] at hj
      rw [Addr.add_lit, hc j hjl, ← hj]
    · intro w' hg' hb'
      have e : goInt (v.map (Value.int .u64)).length = goInt n := by simp [hl]
      rw [e]
      refine h w' ⟨hl, fun hn => ⟨g, 0, rfl, fun i hi => ?_⟩⟩ hb'
      have hg2 := hg'.out
      have e2 : (splice cur.toList 0 (v.map (Value.int .u64))).toArray[i]? = some (.int .u64 (v.getD i 0)) := by
        simp only [splice, List.take_zero, List.nil_append, List.getElem?_toArray]
        rw [List.getElem?_append_left (by simpa [hl] using hi)]
        simp [List.getD, hl ▸ hi]
      simp [World.cell?, hg2, e2]

end Go.Proofs.Qxb6628659a
