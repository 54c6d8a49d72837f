/-
  SEAT b6628739a: THE CONTRACT of Expansion.Cookbooks.
-/
import Derived.Test.Qxb6628739aMap
namespace Go.Proofs.Qxb6628739a
open Go.ChangeShapes Go.WideShapes Go.ChangeAt Go.RowKit
open Go.Proofs.Qxb6628739a.Plain
set_option linter.unusedVariables false

theorem Try.info9 : (Try.prog.info? 9).map (fun i => (i.zero, i.size, i.bytes)) = some (some (.string ⟨#[]⟩), 1, 16) := by kernel_rfl

/-- A row of the call's own reads as the strings that it owns. -/
theorem reads_own {w : World} {base : Nat} {a : Option Addr} {n cap : Nat} {zs : List ByteArray} (h : w.ownsRow base 9 1 (.slice a n cap) n (zs.map Value.string)) : Reads w a n zs := by
  obtain ⟨hl, h⟩ := h
  have hl' : zs.length = n := by simpa using hl
  refine ⟨hl', fun hn => ?_⟩
  rcases h with ⟨_, rfl⟩ | ⟨g, cap', cur, hv, hg, hh, h1, h2, h3, h4⟩
  · omega
  · simp only [Value.slice.injEq] at hv
    obtain ⟨rfl, _, rfl⟩ := hv
    refine ⟨g, 0, rfl, fun i hi => ?_⟩
    have e : cur[i]? = some (.string (zs.getD i ByteArray.empty)) := by
      have h5 : (cur.toList.take (n * 1))[i]? = (zs.map Value.string)[i]? := by rw [h4]
      rw [List.getElem?_take, if_pos (by omega)] at h5
      rw [Array.getElem?_toList] at h5
      rw [h5]
      simp [List.getD, hl' ▸ hi]
    simp [World.cell?, hh, e]

/-- Strings that Go can hold. -/
def Small (xs : List ByteArray) : Prop := ∀ i, i < xs.length → (xs.getD i ByteArray.empty).size ≤ maxLen

theorem dd_take_succ (xs : List ByteArray) (k : Nat) (h : k < xs.length) : dd (xs.take (k + 1)) = Plain.step (dd (xs.take k)) (xs.getD k ByteArray.empty) := by
  rw [List.take_succ_eq_append_getElem h, dd_snoc]
  simp [List.getD, List.getElem?_eq_getElem h]

theorem one_new (W : World) (v : Value) (t : TypeId) : ∀ j u, [v][j]? = some u → (W.alloc (.cells #[v] t)).cell? ((⟨W.heap.size, 0, none⟩ : Addr).add j) = some u :=
  fun j u h => cells_new W [v] t j u h

theorem after_mark {wr w1 : World} {M : Nat} {vs : List Value} {t : TypeId} (hg : (wr.alloc (.cells vs.toArray t)).grownBy w1 (some M)) (hM : M < wr.heap.size) (j : Nat) : w1.cell? ⟨wr.heap.size, j, none⟩ = vs[j]? := by
  have e : w1.heap[wr.heap.size]? = some (.cells vs.toArray t) := by
    rw [hg.block wr.heap.size (by simp) (by simp; omega)]
    exact heap_alloc_new wr _
  rw [cell_of_row _ _ j _ _ _ e]
  simp

theorem own_ge {w : World} {base : Nat} {e : TypeId} {size n : Nat} {v : Value} {xs : List Value} (h : w.ownsRow base e size v n xs) : ∀ b, v.ownBlock = some b → base ≤ b := by
  intro b hb
  rcases h.2 with ⟨rfl, _⟩ | ⟨g, c, cur, rfl, hg, _⟩
  · simp [Value.ownBlock] at hb
  · simp [Value.ownBlock] at hb; omega

theorem own_ne {w : World} {base M : Nat} {e : TypeId} {size n : Nat} {v : Value} {xs : List Value} (h : w.ownsRow base e size v n xs) (hM : M < base) : v.ownBlock ≠ some M := by
  intro hb
  have := own_ge h M hb
  omega

theorem oneCell_str (x : ByteArray) : ∀ u ∈ [Value.string x], u.oneCell' = true := by
  intro u hu
  simp only [List.mem_singleton] at hu
  subst hu
  rfl

set_option maxHeartbeats 2000000 in
theorem books_any (a : Option Addr) (len cap : Nat) (v1 v2 : Value) (ts : List Itm) (w : World) (h : ReadsI w a len ts) (hm : len ≤ 2048) (hs : Small (books ts)) :
    Calls Try.prog 8 #[.agg #[.slice a len cap, v1, v2]] w fun e w' => ∃ a' c', e = .returned (.slice a' (dd (books ts)).length c') ∧ Reads w' a' (dd (books ts)).length (dd (books ts)) ∧ (a' = none ↔ ts = []) ∧ Below w.heap.size w w' := by
  obtain ⟨i9, hi9, hz0, hz1, hz2⟩ := info_parts Try.info9
  have hmm := @run_makeMap Try.prog
  obtain ⟨xs, hxs⟩ : ∃ xs, xs = books ts := ⟨_, rfl⟩
  have HXS : Hid (xs = books ts) := hxs
  rw [← hxs] at hs ⊢
  have HLX : Hid (xs.length = len) := by show _ = _; rw [hxs, books_length]; exact h.1
  clear hxs
  go_enter Try.func8, Try.ntmps8
  go_wp2
  go_loopw [3, 11] (fun v i wr => ∃ k : Nat, k ≤ len ∧ i = .int .i64 k ∧ wr.ownsRow (w.heap.size + 2) 9 1 v (dd (xs.take k)).length ((dd (xs.take k)).map Value.string) ∧ (v = .slice none 0 0 ↔ dd (xs.take k) = []) ∧ Seen wr (w.heap.size + 1) k (dd (xs.take k)) ∧ Below w.heap.size w wr ∧ w.heap.size + 2 ≤ wr.heap.size) (fun _ i _ => len - (intOf i).toNat)
  case atStart =>
    refine ⟨0, Nat.zero_le _, rfl, World.ownsRow_nil _ _ _ _, by simp [dd], ?_, ((Below.refl _ _).alloc (Nat.le_refl _) _).alloc (by simp) _, by simp⟩
    have := seen_made (w.alloc (.cells #[.slice a len cap, v1, v2] 29))
    simpa [dd] using this
  case round =>
    obtain ⟨k, hk, rfl, hown, hnil, hseen, hbr, hsz⟩ := hrel
    by_cases hkn : k < len
    · obtain ⟨b, off, rfl, hc⟩ := (h.below hbr).2 (by omega)
      obtain ⟨h0, h1, h2, h3⟩ := hc k (by omega)
      have hxl : k < xs.length := by rw [HLX.out]; exact hkn
      have hD := dd_take_succ xs k hxl
      have hsx := hs k hxl
      have ht : (ts.getD k Itm.none).book = xs.getD k ByteArray.empty := by rw [HXS.out]; exact (books_getD ts k (by rw [h.1]; exact hkn)).symm
      have hcl : (dd (xs.take k)).length ≤ k := Nat.le_trans (length_dd _) (List.length_take_le _ _)
      rw [ht] at h2
      clear hc ht h hs hxl
      generalize xs.getD k ByteArray.empty = x at hD hsx h2
      generalize (ts.getD k Itm.none).kind = tk at h0
      generalize (ts.getD k Itm.none).role = tr at h1
      generalize (ts.getD k Itm.none).recipe = tp at h3
      generalize hcb : dd (xs.take k) = cb at *
      have HD : Hid (dd (xs.take (k + 1)) = Plain.step cb x) := hD
      clear hD hcb
      cases hx : has cb x
      · have HN : Hid (u3 = .slice none 0 0 ↔ cb = []) := hnil
        have hownA := hown.alloc (.cells #[.int .i64 tk, .string tr, .string x, .string tp] 38)
        have HB : Hid (∀ w1 w2 : World, (wr.alloc (.cells #[.int .i64 tk, .string tr, .string x, .string tp] 38)).grownBy w1 (some (w.heap.size + 1)) → (w1.alloc (.cells #[.string x] 9)).grownBy w2 u3.ownBlock → Below w.heap.size w w2 ∧ w.heap.size + 2 ≤ w2.heap.size) := by
          intro w1 w2 g1 g2
          have s1 := g1.size
          have s2 := g2.size
          simp at s1 s2
          exact ⟨(((hbr.alloc (by omega) _).grown g1 (by simp; omega) (fun b hb => by cases hb; omega)).alloc (by omega) _).grown g2 (by simp; omega) (fun b hb => by have := own_ge hown b hb; omega), by omega⟩
        have HO : Hid (∀ w1 : World, (wr.alloc (.cells #[.int .i64 tk, .string tr, .string x, .string tp] 38)).grownBy w1 (some (w.heap.size + 1)) → w1.ownsRow (w.heap.size + 2) 9 1 u3 cb.length (cb.map Value.string)) := fun w1 g1 => hownA.kept g1 (.inr (own_ne hown (by omega)))
        have HNE : Hid (some (w.heap.size + 1) ≠ u3.ownBlock) := fun e => own_ne hown (by omega) e.symm
        clear hownA hown hnil hbr
        go_wp2_with (first
          | (at_lookup; refine wpList_seen _ rfl (.tmp 15) (.tmp 17) rfl (w.heap.size + 1) k cb x rfl (hseen.alloc _) rfl hsx false hx ?_)
          | (at_mapUpdate; refine wpList_mark _ rfl (.tmp 20) (.tmp 22) _ rfl (w.heap.size + 1) k cb x rfl (hseen.alloc _) rfl rfl hsx (by unfold maxLen; omega) ?_; intro w1 hseen1 hgrow1; have hc2 := after_mark (vs := [.int .i64 tk, .string tr, .string x, .string tp]) hgrow1 (by omega) 2)
          | (at_builtin; refine wpList_append_own _ rfl (.tmp 23) (.tmp 26) 23 rfl (w.heap.size + 2) 9 i9 (.string ⟨#[]⟩) 1 16 Try.underlying23 hi9 hz0 hz1 hz2 rfl (by decide) _ _ _ rfl ((HO.out w1 hgrow1).alloc _) ⟨w1.heap.size, 0, none⟩ 1 1 [.string x] rfl rfl (one_new _ _ _) (oneCell_str x) (by unfold maxLen; omega) (by omega) (by have := hgrow1.size; simp at this ⊢; omega) ?_; intro v' w2 hown2 hgrow2 hnil2))
        go_roundw
        case rel =>
          have e : dd (xs.take (k + 1)) = cb ++ [x] := by rw [HD.out, Plain.step, if_neg (by rw [hx]; simp)]
          have hb := HB.out w1 w2 hgrow1 hgrow2
          refine ⟨k + 1, by omega, by go_num, ?_, ?_, ?_, hb.1, hb.2⟩
          · rw [e, List.length_append, List.map_append]
            exact hown2
          · rw [e]
            constructor
            · intro h
              exact absurd (hnil2.1 h).2 (by omega)
            · intro h
              simp at h
          · rw [e]
            exact (hseen1.alloc _).kept hgrow2 HNE.out
        case measure => simp [intOf]; omega
      · go_wp2_with (at_lookup; refine wpList_seen _ rfl (.tmp 15) (.tmp 17) rfl (w.heap.size + 1) k cb x rfl (hseen.alloc _) rfl hsx true hx ?_)
        go_roundw
        case rel =>
          have e : dd (xs.take (k + 1)) = cb := by rw [HD.out, Plain.step, if_pos hx]
          rw [← e] at hown hnil hseen
          exact ⟨k + 1, by omega, by go_num, hown.alloc _, hnil, (hseen.alloc _).mono (by omega), hbr.alloc (by omega) _, by simp; omega⟩
        case measure => simp [intOf]; omega
    · obtain rfl : k = len := by omega
      have e : xs.take k = xs := List.take_of_length_le (by rw [HLX.out]; omega)
      rw [e] at hown hnil
      obtain ⟨a', c', hv⟩ := slice_of_own hown
      have hR : Reads wr a' (dd xs).length (dd xs) := reads_own (by rw [← hv]; exact hown)
      have hN : a' = none ↔ ts = [] := by
        have hts : ts = [] ↔ dd xs = [] := by
          rw [dd_nil, HXS.out]
          simp [books]
        rw [hts, ← hnil, hv]
        constructor
        · rintro rfl
          rcases hown.2 with ⟨e1, _⟩ | ⟨g, c, cur, e1, _⟩
          · rw [hv] at e1; exact e1
          · rw [hv] at e1; simp at e1
        · intro e1
          simp at e1
          exact e1.1
      have HV : Hid (u3 = .slice a' (dd xs).length c') := hv
      have HN : Hid (a' = none ↔ ts = []) := hN
      clear hv hown h hN hnil hseen hs
      go_wp2
      go_ret
      exact ⟨a', c', ret_val HV.out, hR, HN.out, hbr⟩

end Go.Proofs.Qxb6628739a
