/-
  SEAT b6628739a: THE CONTRACT of cbToItems.
-/
import Derived.Test.Qxb6628739aCalls
namespace Go.Proofs.Qxb6628739a
open Go.ChangeShapes Go.WideShapes Go.ChangeAt Go.RowKit
open Go.Proofs.Qxb6628739a.Plain
set_option linter.unusedVariables false

theorem Try.info38 : (Try.prog.info? 38).map (fun i => (i.zero, i.size, i.bytes)) = some (some (.agg #[.int .i64 0, .string ⟨#[]⟩, .string ⟨#[]⟩, .string ⟨#[]⟩]), 4, 56) := by kernel_rfl

/-- An item's four cells. -/
def Itm.cells (t : Itm) : List Value := [.int .i64 t.kind, .string t.role, .string t.book, .string t.recipe]

/-- The cells of a row of items. -/
def cellsL (l : List Itm) : List Value := l.flatMap Itm.cells

theorem cellsL_length (l : List Itm) : (cellsL l).length = l.length * 4 := by
  induction l with
  | nil => rfl
  | cons t r ih =>
    have : cellsL (t :: r) = t.cells ++ cellsL r := rfl
    rw [this, List.length_append, ih, List.length_cons]
    simp [Itm.cells]
    omega

theorem cellsL_snoc (l : List Itm) (t : Itm) : cellsL (l ++ [t]) = cellsL l ++ t.cells := by simp [cellsL]

theorem cellsL_at (l : List Itm) : ∀ (i c : Nat), i < l.length → c < 4 → (cellsL l)[i * 4 + c]? = (l.getD i Itm.none).cells[c]? := by
  induction l with
  | nil => intro i c h; simp at h
  | cons t r ih =>
    intro i c hi hc
    have e : cellsL (t :: r) = t.cells ++ cellsL r := rfl
    have hl : t.cells.length = 4 := rfl
    rw [e]
    cases i with
    | zero =>
      rw [List.getElem?_append_left (by omega)]
      simp
    | succ j =>
      rw [List.getElem?_append_right (by omega), hl]
      have : (j + 1) * 4 + c - 4 = j * 4 + c := by omega
      rw [this, ih j c (by simp at hi; omega) hc]
      simp

/-- A row of the call's own reads as the items that it owns. -/
theorem readsI_own {w : World} {base : Nat} {a : Option Addr} {n cap : Nat} {ts : List Itm} (h : w.ownsRow base 38 4 (.slice a n cap) n (cellsL ts)) : ReadsI w a n ts := by
  obtain ⟨hl, h⟩ := h
  have hl' : ts.length = n := by rw [cellsL_length] at hl; omega
  refine ⟨hl', fun hn => ?_⟩
  rcases h with ⟨_, rfl⟩ | ⟨g, cap', cur, hv, hg, hh, h1, h2, h3, h4⟩
  · omega
  · simp only [Value.slice.injEq] at hv
    obtain ⟨rfl, _, rfl⟩ := hv
    have key : ∀ i, i < n → ∀ c, c < 4 → w.cell? ⟨g, 0 + i * 4 + c, none⟩ = (ts.getD i Itm.none).cells[c]? := by
      intro i hi c hc
      have e : cur[i * 4 + c]? = (ts.getD i Itm.none).cells[c]? := by
        rw [← cellsL_at ts i c (by omega) hc, ← h4, List.getElem?_take, if_pos (by omega), Array.getElem?_toList]
      have hlt : (i * 4 + c) < cur.size := by rw [h3]; omega
      rw [Nat.zero_add, ← e]
      simp [World.cell?, hh]
    refine ⟨g, 0, rfl, fun i hi => ⟨key i hi 0 (by omega), key i hi 1 (by omega), key i hi 2 (by omega), key i hi 3 (by omega)⟩⟩

theorem Reads.below {w w1 : World} {a : Option Addr} {len : Nat} {ss : List ByteArray} (h : Reads w a len ss) (hb : Below w.heap.size w w1) : Reads w1 a len ss := by
  refine ⟨h.1, fun hl => ?_⟩
  obtain ⟨b, off, rfl, hc⟩ := h.2 hl
  exact ⟨b, off, rfl, fun i hi => cell_later hb (hc i hi)⟩

theorem ReadsI.below {w w1 : World} {a : Option Addr} {len : Nat} {ts : List Itm} (h : ReadsI w a len ts) (hb : Below w.heap.size w w1) : ReadsI w1 a len ts := by
  refine ⟨h.1, fun hl => ?_⟩
  obtain ⟨b, off, rfl, hc⟩ := h.2 hl
  exact ⟨b, off, rfl, fun i hi => ⟨cell_later hb (hc i hi).1, cell_later hb (hc i hi).2.1, cell_later hb (hc i hi).2.2.1, cell_later hb (hc i hi).2.2.2⟩⟩

/-- The cells of a block that has just been laid. -/
theorem cells_new (W : World) (vs : List Value) (t : TypeId) (j : Nat) (u : Value) (h : vs[j]? = some u) : (W.alloc (.cells vs.toArray t)).cell? ((⟨W.heap.size, 0, none⟩ : Addr).add j) = some u := by
  rw [Addr.add_lit, Nat.zero_add]
  have e : (W.alloc (.cells vs.toArray t)).heap[W.heap.size]? = some (.cells vs.toArray t) := heap_alloc_new W _
  rw [cell_of_row _ _ j _ _ _ e]
  simpa using h

theorem cells_new2 (W : World) (X : Obj) (vs : List Value) (t : TypeId) (j : Nat) (u : Value) (h : vs[j]? = some u) : ((W.alloc X).alloc (.cells vs.toArray t)).cell? ((⟨W.heap.size + 1, 0, none⟩ : Addr).add j) = some u := by
  have e : W.heap.size + 1 = (W.alloc X).heap.size := by simp
  rw [e]
  exact cells_new _ vs t j u h

theorem oneCell_itm (t : Itm) : ∀ u ∈ t.cells, u.oneCell' = true := by
  intro u hu
  simp only [Itm.cells, List.mem_cons, List.not_mem_nil, or_false] at hu
  rcases hu with rfl | rfl | rfl | rfl <;> rfl

theorem ret_val {v v' : Value} (h : v = v') : Ending.returned v = .returned v' := by rw [h]

theorem slice_of_own {w : World} {base : Nat} {e : TypeId} {size n : Nat} {v : Value} {xs : List Value} (h : w.ownsRow base e size v n xs) : ∃ a c, v = .slice a n c := by
  rcases h.2 with ⟨e, e'⟩ | ⟨g, c, cur, e, _⟩
  · exact ⟨none, 0, by rw [e, e']⟩
  · exact ⟨_, _, e⟩

set_option maxHeartbeats 1000000 in
theorem toItems_any (a : Option Addr) (len cap lo hi : Nat) (ts : List Itm) (w : World) (h : ReadsI w a len ts) (hm : len ≤ 1024) (hlo : lo ≤ hi) (hhi : hi ≤ len) :
    Calls Try.prog 7 #[.slice a len cap, .int .i64 lo, .int .i64 hi] w fun e w' => ∃ a' c', e = .returned (.slice a' (hi - lo) c') ∧ ReadsI w' a' (hi - lo) ((ts.take hi).drop lo) ∧ Below w.heap.size w w' := by
  obtain ⟨i38, hi38, hz0, hz1, hz2⟩ := info_parts Try.info38
  go_enter Try.func7, Try.ntmps7
  go_wp2
  go_loopw [7, 8] (fun v i wr => ∃ k : Nat, lo ≤ k ∧ k ≤ hi ∧ i = .int .i64 k ∧ wr.ownsRow w.heap.size 38 4 v (k - lo) (cellsL ((ts.take k).drop lo)) ∧ Below w.heap.size w wr) (fun _ i _ => hi - (intOf i).toNat)
  case atStart =>
    refine ⟨lo, Nat.le_refl _, hlo, rfl, ?_, Below.refl _ _⟩
    have e : (ts.take lo).drop lo = [] := List.drop_eq_nil_of_le (List.length_take_le _ _)
    rw [e, Nat.sub_self]
    exact World.ownsRow_nil _ _ _ _
  case round =>
    obtain ⟨k, hk1, hk2, rfl, hown, hbr⟩ := hrel
    by_cases hkn : k < hi
    · obtain ⟨b, off, rfl, hc⟩ := (h.below hbr).2 (by omega)
      obtain ⟨h0, h1, h2, h3⟩ := hc k (by omega)
      clear hc
      generalize ht : ts.getD k Itm.none = t at *
      have hsz := hbr.size
      have HR : ∀ (v' : Value) (w1 : World), w1.ownsRow w.heap.size 38 4 v' (k - lo + 1) (cellsL ((ts.take k).drop lo) ++ t.cells) → w1.ownsRow w.heap.size 38 4 v' (k + 1 - lo) (cellsL ((ts.take (k + 1)).drop lo)) := by
        intro v' w1 h'
        have hk' : k < ts.length := by rw [h.1]; omega
        have e1 : (ts.take (k + 1)).drop lo = (ts.take k).drop lo ++ [t] := by
          rw [List.take_succ_eq_append_getElem hk', List.drop_append_of_le_length (by simp; omega)]
          rw [← ht]
          simp [List.getD, List.getElem?_eq_getElem hk']
        have e2 : k + 1 - lo = k - lo + 1 := by omega
        rw [e1, cellsL_snoc, e2]
        exact h'
      have HH : Hid (∀ (v' : Value) (w1 : World), w1.ownsRow w.heap.size 38 4 v' (k - lo + 1) (cellsL ((ts.take k).drop lo) ++ t.cells) → w1.ownsRow w.heap.size 38 4 v' (k + 1 - lo) (cellsL ((ts.take (k + 1)).drop lo))) := HR
      clear HR ht h
      go_wp2_with (at_builtin; refine wpList_append_own _ rfl (.tmp 20) (.tmp 30) 26 rfl w.heap.size 38 i38 (.agg #[.int .i64 0, .string ⟨#[]⟩, .string ⟨#[]⟩, .string ⟨#[]⟩]) 4 56 Try.underlying26 hi38 hz0 hz1 hz2 rfl (by decide) _ _ _ rfl ((hown.alloc _).alloc _) ⟨wr.heap.size + 1, 0, none⟩ 1 1 t.cells rfl rfl ?c1 (oneCell_itm t) ?c3 ?c4 ?c5 ?_)
      case c1 => exact fun j u hj => cells_new2 _ _ t.cells 38 j u hj
      case c3 => unfold maxLen; omega
      case c4 => omega
      case c5 => simp; omega
      · intro v' w1 hown' hgrow _
        have hR := HH.out v' w1 hown'
        have hB : Below w.heap.size w w1 := ((hbr.alloc hsz _).alloc (by simp; omega) _).grown hgrow (by simp; omega) (by
          intro b' hb'
          rcases hown.2 with ⟨rfl, _⟩ | ⟨g, c, cur, rfl, hg, _⟩
          · simp [Value.ownBlock] at hb'
          · simp [Value.ownBlock] at hb'; omega)
        clear hown' hgrow hown hbr HH h0 h1 h2 h3
        go_wp2
        go_roundw
        case rel => exact ⟨k + 1, by omega, by omega, by go_num, hR, hB⟩
        case measure => simp [intOf]; omega
    · obtain rfl : k = hi := by omega
      obtain ⟨a', c', hv⟩ := slice_of_own hown
      have hR : ReadsI wr a' (k - lo) ((ts.take k).drop lo) := readsI_own (by rw [← hv]; exact hown)
      have HV : Hid (u7 = .slice a' (k - lo) c') := hv
      clear hv hown h
      go_wp2
      go_ret
      exact ⟨a', c', ret_val HV.out, hR, hbr⟩

end Go.Proofs.Qxb6628739a
