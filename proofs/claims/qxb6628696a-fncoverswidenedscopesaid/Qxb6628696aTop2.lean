/-
  SEAT b6628696a: the walk of FnCoversWidenedScope: beyond its bounds; and the row that it fills.
-/
import Derived.Test.Qxb6628696aTop1b
namespace Go.Proofs.Qxb6628696a
open Go.ChangeShapes Go.WideShapes Go.ChangeAt Go.RowKit
open Go.Proofs.Qxb6628696a.Plain
set_option linter.unusedVariables false

set_option maxRecDepth 100000 in
set_option maxHeartbeats 1000000 in
theorem top2_out (a0 : Option Addr) (len0 cap0 : Nat) (s : List ByteArray) (a1 : Option Addr) (len1 cap1 : Nat) (e : List ByteArray) (a2 : Option Addr) (len2 cap2 : Nat) (o : List ByteArray) (w : World) (k0 : Came w a0 len0 cap0 s) (k1 : Came w a1 len1 cap1 e) (k2 : Came w a2 len2 cap2 o)
    (hk : ¬ (len0 ≤ 4096 ∧ len1 ≤ 4096 ∧ len2 ≤ 4096)) :
    Calls Try.prog 4 #[.slice a0 len0 cap0, .slice a1 len1 cap1, .slice a2 len2 cap2] w fun e w' => e = .returned (.bool true) ∧ Below w.heap.size w w' := by
  have m0 : len0 ≤ maxLen := Nat.le_trans k0.lc k0.max
  have m1 : len1 ≤ maxLen := Nat.le_trans k1.lc k1.max
  have m2 : len2 ≤ maxLen := Nat.le_trans k2.lc k2.max
  have c8 := bytes8_any a0 len0 cap0 s a1 len1 cap1 e a2 len2 cap2 o w k0.reads k1.reads k2.reads m0 m1 m2
  unfold maxLen at m0 m1 m2
  clear k0 k1 k2
  by_cases h0 : len0 ≤ 4096
  · by_cases h1 : len1 ≤ 4096
    · have h2 : 4096 < len2 := by omega
      clear hk
      go_enter Try.func4, Try.ntmps4
      go_wp2_with fail
      refine c8.mono ?_
      rintro e w' ⟨⟨b, rfl⟩, hw⟩
      obtain rfl := hw.symm
      cases b
      all_goals
        go_wp2
        go_ret
        exact ⟨rfl, Below.refl _ _⟩
    · clear hk
      go_enter Try.func4, Try.ntmps4
      go_wp2_with fail
      refine c8.mono ?_
      rintro e w' ⟨⟨b, rfl⟩, hw⟩
      obtain rfl := hw.symm
      cases b
      all_goals
        go_wp2
        go_ret
        exact ⟨rfl, Below.refl _ _⟩
  · clear hk
    go_enter Try.func4, Try.ntmps4
    go_wp2_with fail
    refine c8.mono ?_
    rintro e w' ⟨⟨b, rfl⟩, hw⟩
    obtain rfl := hw.symm
    cases b
    all_goals
      go_wp2
      go_ret
      exact ⟨rfl, Below.refl _ _⟩

/-- The row w when its first k places have been filled with the strings of l. -/
def rowS (l : List ByteArray) (n k : Nat) : List Value := (l.take k ++ List.replicate (n - k) (⟨#[]⟩ : ByteArray)).map Value.string

theorem rowS_zero (l : List ByteArray) (n : Nat) : rowS l n 0 = (madeCells (Value.string ⟨#[]⟩).cells (n * 1)).toList := by
  apply List.ext_getElem?
  intro i
  simp only [rowS, madeCells, Value.cells, List.take_zero, List.nil_append, Nat.sub_zero, Nat.mul_one, List.map_replicate]
  by_cases hi : i < n
  · simp [hi, Nat.mod_one]
  · simp [hi]

theorem rowS_at (l : List ByteArray) (n k : Nat) (hl : l.length = n) (h : k < n) : (rowS l n k)[k]? = some (.string ⟨#[]⟩) := by
  have e : (l.take k).length = k := by simp; omega
  obtain ⟨m, hm⟩ : ∃ m, n - k = m + 1 := ⟨n - k - 1, by omega⟩
  simp only [rowS, List.getElem?_map]
  rw [List.getElem?_append_right (by omega), e, Nat.sub_self, hm, List.replicate_succ]
  rfl

theorem rowS_set (l : List ByteArray) (n k : Nat) (hl : l.length = n) (h : k < n) (x : ByteArray) (hx : x = l.getD k ByteArray.empty) : (rowS l n k).set k (.string x) = rowS l n (k + 1) := by
  have e : (l.take k).length = k := by simp; omega
  obtain ⟨m, hm⟩ : ∃ m, n - k = m + 1 := ⟨n - k - 1, by omega⟩
  have hm2 : n - (k + 1) = m := by omega
  have hx2 : x = l[k]'(by omega) := by rw [hx]; simp [List.getD, List.getElem?_eq_getElem (show k < l.length by omega)]
  simp only [rowS, hm, hm2, List.replicate_succ]
  rw [← List.map_set, List.set_append_right _ _ (by omega), e, Nat.sub_self, List.set_cons_zero, hx2, List.take_succ_eq_append_getElem (by omega), List.append_assoc]
  rfl

theorem rowS_all (l : List ByteArray) (n : Nat) (hl : l.length = n) : rowS l n n = l.map Value.string := by
  simp [rowS, ← hl]

theorem reads_own {w : World} {base : Nat} {a : Option Addr} {n cap : Nat} {zs : List ByteArray} (h : w.ownsRow base 9 1 (.slice a n cap) n (zs.map Value.string)) : Reads w a n zs := by
  obtain ⟨hl, h⟩ := h
  have hl' : zs.length = n := by simpa using hl
  refine ⟨hl', fun hn => ?_⟩
  rcases h with ⟨_, rfl⟩ | ⟨g, cap', cur, hv, hg, hh, h1, h2, h3, h4⟩
  · omega
  · simp only [Value.slice.injEq] at hv
    obtain ⟨rfl, _, rfl⟩ := hv
    refine ⟨g, 0, rfl, fun i hi => ?_⟩
    have e : cur[i]? = some (.string (zs.getD i ByteArray.empty)) := by
      have h5 : (cur.toList.take (n * 1))[i]? = (zs.map Value.string)[i]? := by rw [h4]
      rw [List.getElem?_take, if_pos (by omega)] at h5
      rw [Array.getElem?_toList] at h5
      rw [h5]
      simp [List.getD, hl' ▸ hi]
    simp [World.cell?, hh, e]

theorem Try.info9 : (Try.prog.info? 9).map (fun i => (i.zero, i.size, i.bytes)) = some (some (.string ⟨#[]⟩), 1, 16) := by kernel_rfl

theorem new_cell (wr : World) (v : Value) (t : TypeId) : (wr.alloc (.cells #[v] t)).cell? ⟨wr.heap.size, 0, none⟩ = some v := by simp

theorem first_of_two (wr : World) (v1 v2 : Value) (t : TypeId) : ((wr.alloc (.cells #[v1] t)).alloc (.cells #[v2] t)).cell? ⟨wr.heap.size, 0, none⟩ = some v1 := by
  rw [World.cell?_alloc_lt _ _ _ (by simp)]
  exact new_cell wr v1 t

theorem second_of_two (wr : World) (v1 v2 : Value) (t : TypeId) : ((wr.alloc (.cells #[v1] t)).alloc (.cells #[v2] t)).cell? ⟨wr.heap.size + 1, 0, none⟩ = some v2 := by
  have e : wr.heap.size + 1 = (wr.alloc (.cells #[v1] t)).heap.size := by simp
  rw [e]
  exact new_cell _ v2 t

/-- The three scopes in their boxes, in whatever later world. -/
structure Tail (wr x : World) (v1 v2 v3 : Value) (B3 : Nat) : Prop where
  c1 : x.cell? ⟨wr.heap.size, 0, none⟩ = some v1
  c2 : x.cell? ⟨wr.heap.size + 1, 0, none⟩ = some v2
  c3 : x.cell? ⟨B3, 0, none⟩ = some v3
  bw : Below wr.heap.size wr x

theorem Tail.later {wr x y : World} {v1 v2 v3 : Value} {B3 : Nat} (h : Tail wr x v1 v2 v3 B3) (hb : Below x.heap.size x y) : Tail wr y v1 v2 v3 B3 :=
  ⟨cell_later hb h.c1, cell_later hb h.c2, cell_later hb h.c3, h.bw.trans (hb.mono h.bw.size)⟩

end Go.Proofs.Qxb6628696a
