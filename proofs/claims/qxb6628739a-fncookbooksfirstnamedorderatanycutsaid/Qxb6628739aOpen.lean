/-
  SEAT b6628739a: WHAT COMES IN: a slice of items and a slice of strings, opened out of the row's own reading.
-/
import Derived.Test.Qxb6628739aBooks
import Derived.Deep.Slices
import Derived.SliceStrings
import Derived.ChangeArms
import Derived.ProofKit
namespace Go.Proofs.Qxb6628739a
open Go.ChangeShapes Go.WideShapes Go.ChangeAt Go.RowKit
open Go.Deep (open_slice choose_lt)
open Go.Proofs.Qxb6628739a.Plain
set_option linter.unusedVariables false

theorem Try.cells33 : Try.prog.cellsOf 33 = 4 := by kernel_rfl
theorem Try.cells3 : Try.prog.cellsOf 3 = 1 := by kernel_rfl
theorem Try.cells9 : Try.prog.cellsOf 9 = 1 := by kernel_rfl

/-- A slice of strings that came in. -/
theorem came_strings {H : Type} {enc : TypeId × Value → H} {W : World} {a : Option Addr} {len cap : Nat} {x : DataW H} {ps : List MemPlace} (h : DataW.Trod enc Try.prog W 0 (fun _ => true) true 23 (.slice a len cap) x ps) : ∃ ss, Reads W a len ss ∧ len ≤ maxLen := by
  obtain ⟨fuel, hf⟩ := h
  rcases open_strings Try.underlying23 Try.underlying9 (by kernel_rfl) hf with ⟨hcs, _⟩ | ⟨y, l, c, ss, hcs, _, hl, hm, hz, _, hcell, hws⟩
  · simp [Value.cells] at hcs
    obtain ⟨rfl, rfl, rfl⟩ := hcs
    exact ⟨[], ⟨rfl, fun h => absurd h (by omega)⟩, Nat.zero_le _⟩
  · simp [Value.cells] at hcs
    obtain ⟨rfl, rfl, rfl⟩ := hcs
    have hz' : ss.length = cap := by simpa using hz
    have hlen : (ss.take len).length = len := by simp; omega
    have hget : ∀ i, i < len → (ss.take len).getD i ByteArray.empty = ss.getD i ByteArray.empty := fun i hi => by
      simp only [List.getD, List.getElem?_take, if_pos hi]
    refine ⟨ss.take len, ⟨hlen, fun hp => ?_⟩, by omega⟩
    obtain ⟨b, off, sp⟩ := y
    have h0 := hcell 0 (by omega)
    have hsp : sp = none := by simpa [Addr.add] using World.cell?_spot h0
    subst hsp
    refine ⟨b, off, rfl, fun i hi => ?_⟩
    rw [hget i hi, ← add_plain]
    exact hcell i (by omega)

/-- One item, out of its reading. -/
theorem open_item {H : Type} {enc : TypeId × Value → H} {W : World} {sp : Nat → Bool} {held : Bool} {a : Addr} {n : Nat} {cs : List Value} {x : DataW H × List MemPlace} (h1 : W.cells? 0 a 4 = some cs) (h2 : DataW.trod enc Try.prog W 0 sp held n 33 cs = some x) :
    ∃ t : Itm, W.cell? (a.add 0) = some (.int .i64 t.kind) ∧ W.cell? (a.add 1) = some (.string t.role) ∧ W.cell? (a.add 2) = some (.string t.book) ∧ W.cell? (a.add 3) = some (.string t.recipe) ∧ t.book.size ≤ maxLen := by
  obtain ⟨_, hlen, hcell⟩ := World.cells?_some h1
  obtain ⟨xs, k, hk, hxy, _, hxl, hf⟩ := DataW.trod_struct Try.underlying33 h2
  match xs, hxl, cs, hlen with
  | [y0, y1, y2, y3], _, [v0, v1, v2, v3], _ =>
    have g0 := hf 0 _ rfl
    have g1 := hf 1 _ rfl
    have g2 := hf 2 _ rfl
    have g3 := hf 3 _ rfl
    simp [Try.cells3, Try.cells9] at g0 g1 g2 g3
    obtain ⟨a0, q0, _, _⟩ := DataW.trod_int Try.underlying3 g0
    obtain ⟨a1, q1, _, _⟩ := DataW.trod_string Try.underlying9 g1
    obtain ⟨a2, q2, _, hs2⟩ := DataW.trod_string Try.underlying9 g2
    obtain ⟨a3, q3, _, _⟩ := DataW.trod_string Try.underlying9 g3
    simp at q0 q1 q2 q3
    subst q0 q1 q2 q3
    have e0 := hcell 0 (by omega)
    have e1 := hcell 1 (by omega)
    have e2 := hcell 2 (by omega)
    have e3 := hcell 3 (by omega)
    exact ⟨⟨a0, a1, a2, a3⟩, by simpa using e0, by simpa using e1, by simpa using e2, by simpa using e3, hs2⟩

/-- A slice of items that came in. -/
theorem came_items {H : Type} {enc : TypeId × Value → H} {W : World} {a : Option Addr} {len cap : Nat} {x : DataW H} {ps : List MemPlace} (h : DataW.Trod enc Try.prog W 0 (fun _ => true) true 22 (.slice a len cap) x ps) : ∃ ts, ReadsI W a len ts ∧ Small (books ts) ∧ len ≤ maxLen := by
  obtain ⟨fuel, hf⟩ := h
  rcases open_slice Try.underlying22 hf with ⟨hcs, _⟩ | ⟨y, l, c, m, n, D, Pl, hcs, _, hl, hm, hmm, _, hx⟩
  · simp [Value.cells] at hcs
    obtain ⟨rfl, rfl, rfl⟩ := hcs
    exact ⟨[], ⟨rfl, fun h => absurd h (by omega)⟩, fun i hi => by simp [books] at hi, Nat.zero_le _⟩
  · simp [Value.cells] at hcs
    obtain ⟨rfl, rfl, rfl⟩ := hcs
    simp only [if_true] at hmm
    subst hmm
    rw [Try.cells33] at hx
    have each : ∀ i, i < m → ∃ t : Itm, W.cell? ((y.add (i * 4)).add 0) = some (.int .i64 t.kind) ∧ W.cell? ((y.add (i * 4)).add 1) = some (.string t.role) ∧ W.cell? ((y.add (i * 4)).add 2) = some (.string t.book) ∧ W.cell? ((y.add (i * 4)).add 3) = some (.string t.recipe) ∧ t.book.size ≤ maxLen := by
      intro i hi
      obtain ⟨cs', h1, h2⟩ := hx i hi
      exact open_item h1 h2
    obtain ⟨T, hT⟩ := @choose_lt Itm ⟨Itm.none⟩ _ _ each
    have hget : ∀ i, i < len → ((List.range len).map T).getD i Itm.none = T i := fun i hi => by simp [List.getD, hi]
    refine ⟨(List.range len).map T, ⟨by simp, fun hp => ?_⟩, ?_, by omega⟩
    · obtain ⟨b, off, sp⟩ := y
      have h0 := (hT 0 (by omega)).1
      have hsp : sp = none := by simpa [Addr.add] using World.cell?_spot h0
      subst hsp
      refine ⟨b, off, rfl, fun i hi => ?_⟩
      rw [hget i hi]
      have := hT i (by omega)
      simp only [add_plain, Nat.add_zero] at this
      exact ⟨this.1, this.2.1, this.2.2.1, this.2.2.2.1⟩
    · intro i hi
      have hi' : i < len := by simpa [books] using hi
      rw [books_getD _ i (by simpa using hi'), hget i hi']
      exact (hT i (by omega)).2.2.2.2

end Go.Proofs.Qxb6628739a
