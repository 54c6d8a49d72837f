/-
  SEAT b6628739a: the walk of FnCookbooksIgnoresRepeatsAndOtherFields.
-/
import Derived.Test.Qxb6628739aGuards12
import Derived.Deep.DeepCutAuto
import Derived.Deep.CutBlock
namespace Go.Proofs.Qxb6628739a
open Go.ChangeShapes Go.WideShapes Go.ChangeAt Go.RowKit
open Go.Proofs.Qxb6628739a.Plain
set_option linter.unusedVariables false

/-- Cookbooks, where the answer's list is known. -/
theorem books_as {L : List ByteArray} (a : Option Addr) (len cap : Nat) (v1 v2 : Value) (us : List Itm) (w : World) (h : ReadsI w a len us) (hm : len ≤ 2048) (hs : Small (books us)) (hL : dd (books us) = L) :
    Calls Try.prog 8 #[.agg #[.slice a len cap, v1, v2]] w fun e w' => ∃ a' c', e = .returned (.slice a' L.length c') ∧ Reads w' a' L.length L ∧ (a' = none ↔ us = []) ∧ Below w.heap.size w w' := by
  subst hL
  exact books_any a len cap v1 v2 us w h hm hs

/-- The items written r times over. -/
def rep (ts : List Itm) : Nat → List Itm
  | 0 => []
  | r + 1 => rep ts r ++ ts

theorem rep_length (ts : List Itm) (r : Nat) : (rep ts r).length = r * ts.length := by
  induction r with
  | zero => simp [rep]
  | succ r ih => simp only [rep, List.length_append, ih]; rw [Nat.succ_mul]

theorem rep_two (ts : List Itm) : rep ts 2 = ts ++ ts := by simp [rep]

theorem take_snocI (ts : List Itm) (k : Nat) (h : k < ts.length) : ts.take (k + 1) = ts.take k ++ [ts.getD k Itm.none] := by
  rw [List.take_succ_eq_append_getElem h]
  simp [List.getD, List.getElem?_eq_getElem h]

/-- An item of a cookbook alone. -/
def bare (x : ByteArray) : Itm := ⟨0, ⟨#[]⟩, x, ⟨#[]⟩⟩

theorem books_bare (xs : List ByteArray) : books (xs.map bare) = xs := by
  simp only [books, List.map_map]
  have : Itm.book ∘ bare = id := rfl
  rw [this, List.map_id]

theorem books_append (a b : List Itm) : books (a ++ b) = books a ++ books b := by simp [books]

theorem small_append {a b : List ByteArray} (ha : Small a) (hb : Small b) : Small (a ++ b) := by
  intro i hi
  simp only [List.getD]
  by_cases h : i < a.length
  · rw [List.getElem?_append_left h]; exact ha i h
  · rw [List.getElem?_append_right (by omega)]
    exact hb (i - a.length) (by simp at hi; omega)

theorem small_iff {a : List ByteArray} : Small a ↔ ∀ x ∈ a, x.size ≤ maxLen := by
  constructor
  · intro h x hx
    obtain ⟨i, hi, rfl⟩ := List.getElem_of_mem hx
    have := h i hi
    simpa [List.getD, List.getElem?_eq_getElem hi] using this
  · intro h i hi
    have := h a[i] (List.getElem_mem hi)
    simpa [List.getD, List.getElem?_eq_getElem hi] using this

theorem small_dd {xs : List ByteArray} (h : Small xs) : Small (dd xs) := by
  rw [small_iff] at h ⊢
  intro x hx
  exact h x (mem_dd.1 hx)

set_option maxRecDepth 100000 in
set_option maxHeartbeats 2000000 in
theorem top2_in (a0 : Option Addr) (len0 cap0 : Nat) (ts : List Itm) (a1 : Option Addr) (len1 cap1 : Nat) (s1 : List ByteArray) (a2 : Option Addr) (len2 cap2 : Nat) (s2 : List ByteArray) (w : World) (h0 : ReadsI w a0 len0 ts) (h1 : Reads w a1 len1 s1) (h2 : Reads w a2 len2 s2) (hm1 : len1 ≤ maxLen) (hm2 : len2 ≤ maxLen) (hs : Small (books ts))
    (b0 : len0 ≤ 1024) :
    Calls Try.prog 4 #[.slice a0 len0 cap0, .slice a1 len1 cap1, .slice a2 len2 cap2] w fun e w' => e = .returned (.bool true) ∧ Below w.heap.size w w' := by
  obtain ⟨i38, hi38, hz0, hz1, hz2⟩ := info_parts Try.info38
  have hm0 : len0 ≤ maxLen := by unfold maxLen; omega
  have c12 := bytes12_any a0 len0 cap0 ts a1 len1 cap1 s1 a2 len2 cap2 s2 w h0 h1 h2 hm0 hm1 hm2
  have c6 := size_any a0 len0 cap0 ts a1 len1 cap1 s1 a2 len2 cap2 s2 w h0 h1 h2 hm0 hm1 hm2 b0
  have c7 := toItems_any a0 len0 cap0 0 len0 ts w h0 b0 (Nat.zero_le _) (Nat.le_refl _)
  have et : (ts.take len0).drop 0 = ts := by rw [List.drop_zero, List.take_of_length_le (by rw [h0.1]; omega)]
  rw [et, Nat.sub_zero] at c7
  clear et
  obtain ⟨L, hL⟩ : ∃ L, L = dd (books ts) := ⟨_, rfl⟩
  have HL : Hid (L = dd (books ts)) := hL
  have hLn : L.length ≤ len0 := by rw [hL, ← h0.1, ← books_length ts]; exact length_dd _
  have HLh : Hid (∀ k, k < len0 → has L ((ts.getD k Itm.none).book) = true) := by
    intro k hk
    rw [hL, has_iff, mem_dd, ← books_getD ts k (by rw [h0.1]; exact hk)]
    have hk' : k < (books ts).length := by rw [books_length, h0.1]; exact hk
    simp [List.getD, List.getElem?_eq_getElem hk']
  clear hL
  have hd : decide (len0 < L.length) = false := by simp; omega
  go_enter Try.func4, Try.ntmps4
  go_wp2_with fail
  refine c12.mono ?_
  rintro _ w' ⟨⟨b, rfl⟩, hw⟩
  obtain rfl := hw.symm
  cases b
  · clear c12 c6 c7
    go_wp2
    go_ret
    exact ⟨rfl, Below.refl _ _⟩
  · go_wp2_with fail
    refine c6.mono ?_
    rintro _ w' ⟨⟨b, rfl⟩, hw⟩
    obtain rfl := hw.symm
    cases b
    · clear c12 c6 c7
      go_wp2
      go_ret
      exact ⟨rfl, Below.refl _ _⟩
    · go_wp2_with fail
      refine c7.mono ?_
      rintro _ w1 ⟨a', c', rfl, hr1, hb1⟩
      clear c12 c6 c7
      have hba : Below w1.heap.size w1 (w1.alloc (.cells #[.slice a' len0 c', .slice a1 len1 cap1, .slice a2 len2 cap2] 29)) := (Below.refl _ _).alloc (Nat.le_refl _) _
      have q8 := books_as (L := L) a' len0 c' (.slice a1 len1 cap1) (.slice a2 len2 cap2) ts _ (hr1.below hba) (by omega) hs HL.out.symm
      go_wp2_with fail
      refine q8.mono ?_
      rintro _ w2 ⟨ag, cg, rfl, hrg, -, hb2⟩
      have hB2 : Below w.heap.size w w2 := (hb1.trans (hba.mono hb1.size)).trans (hb2.mono (by have := hb1.size; simp; omega))
      have h02 := h0.below hB2
      clear q8 hba hr1 hb1 hb2
      clear h1 h2
      have mL : L.length ≤ maxLen := by omega
      go_upto_block 0 with fail
      go_cut [10] from 25 to 141 (fun _ wx => wx = w2)
      case first =>
        go_wp2_with fail
        go_loopw [10] (fun i wr => ∃ k : Nat, k ≤ len0 ∧ i = .int .i64 k ∧ wr = w2) (fun i _ => len0 - (intOf i).toNat)
        case atStart => exact ⟨0, Nat.zero_le _, rfl, rfl⟩
        case round =>
          obtain ⟨k, hk, rfl, hwr⟩ := hrel
          obtain rfl := hwr.symm
          by_cases hkn : k < len0
          · obtain ⟨b, off, rfl, hc⟩ := h02.2 (by omega)
            have hck := (hc k hkn).2.2.1
            have hx := HLh.out k hkn
            clear hc
            generalize (ts.getD k Itm.none).book = x at hck hx
            have q9 := has_any ag L.length cg L x w2 hrg mL
            rw [hx] at q9
            clear hrg h0 h02 hB2 hx
            go_wp2_with (go_at_call 9; refine q9.mono ?_; rintro _ w' ⟨rfl, hw'⟩; obtain rfl := hw'.symm)
            go_roundw
            case rel => exact ⟨k + 1, by omega, by go_num, trivial⟩
            case measure => simp [intOf]; omega
          · clear hrg h0 h02 hB2
            go_wp2
            go_meet
            case rel => rfl
      case rest =>
        obtain rfl := hcut.symm
        clear HLh
        go_upto_block 2 with fail
        have hsz2 := hB2.size
        go_cut [11] from 25 to 141 (fun d wx => ∃ a c, d = .slice a (2 * len0) c ∧ ReadsI wx a (2 * len0) (rep ts 2) ∧ Below w2.heap.size w2 wx)
        case first =>
          go_wp2_with fail
          go_loopw [11, 12] (fun v i wr => ∃ r : Nat, r ≤ 2 ∧ i = .int .i64 r ∧ wr.ownsRow w2.heap.size 38 4 v (r * len0) (cellsL (rep ts r)) ∧ Below w2.heap.size w2 wr) (fun _ i _ => 2 - (intOf i).toNat)
          case atStart => exact ⟨0, by omega, rfl, by rw [Nat.zero_mul]; exact World.ownsRow_nil _ _ _ _, Below.refl _ _⟩
          case round =>
            obtain ⟨r, hr, rfl, hown, hbr⟩ := hrel
            by_cases hr2 : r < 2
            · have hrb : decide (r < 2) = true := by simpa using hr2
              have hrb' : decide ((r : Int) < 2) = true := by simp; omega
              go_wp2
              go_loopw [11, 13] (fun v i wx => ∃ k : Nat, k ≤ len0 ∧ i = .int .i64 k ∧ wx.ownsRow w2.heap.size 38 4 v (r * len0 + k) (cellsL (rep ts r ++ ts.take k)) ∧ Below w2.heap.size w2 wx) (fun _ i _ => len0 - (intOf i).toNat)
              case atStart => exact ⟨0, by omega, rfl, by rw [Nat.add_zero, List.take_zero, List.append_nil]; exact hown, hbr⟩
              case round =>
                obtain ⟨k, hk, rfl, hown2, hbr2⟩ := hrel
                clear hown hbr
                by_cases hkn : k < len0
                · have hB4 : Below w.heap.size w wr := hB2.trans (hbr2.mono hsz2)
                  obtain ⟨b, off, rfl, hc⟩ := (h0.below hB4).2 (by omega)
                  obtain ⟨e0, e1, e2, e3⟩ := hc k hkn
                  have hsz := hbr2.size
                  have htk := take_snocI ts k (by rw [h0.1]; exact hkn)
                  generalize ts.getD k Itm.none = t at htk e0 e1 e2 e3
                  have HT : Hid (ts.take (k + 1) = ts.take k ++ [t]) := htk
                  clear hc htk h0 h02 hrg hB2 hB4
                  have hrl : r * len0 ≤ 2 * len0 := Nat.mul_le_mul_right _ (by omega)
                  generalize hN : r * len0 + k = N at hown2
                  have hN' : N ≤ 4096 := by omega
                  have HN : Hid (r * len0 + k = N) := hN
                  clear hN hrl
                  go_wp2_with (at_builtin; refine wpList_append_own _ rfl (.tmp 75) (.tmp 85) 26 rfl w2.heap.size 38 i38 (.agg #[.int .i64 0, .string ⟨#[]⟩, .string ⟨#[]⟩, .string ⟨#[]⟩]) 4 56 Try.underlying26 hi38 hz0 hz1 hz2 rfl (by decide) _ _ _ rfl ((hown2.alloc _).alloc _) ⟨wr.heap.size + 1, 0, none⟩ 1 1 t.cells rfl rfl ?c1 (oneCell_itm t) ?c3 ?c4 ?c5 ?_)
                  case c1 => exact fun j u hj => cells_new2 _ _ t.cells 38 j u hj
                  case c3 => unfold maxLen; omega
                  case c4 => omega
                  case c5 => simp; omega
                  · intro v' w5 hown' hgrow _
                    have hB : Below w2.heap.size w2 w5 := ((hbr2.alloc hsz _).alloc (by simp; omega) _).grown hgrow (by simp; omega) (own_ge hown2)
                    have HO : Hid (w5.ownsRow w2.heap.size 38 4 v' (r * len0 + (k + 1)) (cellsL (rep ts r ++ ts.take (k + 1)))) := by
                      show w5.ownsRow w2.heap.size 38 4 v' (r * len0 + (k + 1)) (cellsL (rep ts r ++ ts.take (k + 1)))
                      rw [HT.out, ← List.append_assoc, cellsL_snoc, ← Nat.add_assoc, HN.out]
                      exact hown'
                    clear hown' hgrow hown2 hbr2 e0 e1 e2 e3
                    go_wp2
                    go_roundw
                    case rel => exact ⟨k + 1, by omega, by go_num, HO.out, hB⟩
                    case measure => simp [intOf]; omega
                · obtain rfl : k = len0 := by omega
                  have HO : Hid (wr.ownsRow w2.heap.size 38 4 u11 ((r + 1) * k) (cellsL (rep ts (r + 1)))) := by
                    show wr.ownsRow w2.heap.size 38 4 u11 ((r + 1) * k) (cellsL (rep ts (r + 1)))
                    rw [Nat.succ_mul, rep]
                    rw [List.take_of_length_le (by rw [h0.1]; omega)] at hown2
                    exact hown2
                  clear hown2 h0 h02 hrg hB2
                  go_wp2
                  go_roundw
                  case rel => exact ⟨r + 1, by omega, by go_num, HO.out, hbr2⟩
                  case measure => simp [intOf]; omega
            · obtain rfl : r = 2 := by omega
              obtain ⟨a', c', hv⟩ := slice_of_own hown
              have hR : ReadsI wr a' (2 * len0) (rep ts 2) := readsI_own (by rw [← hv]; exact hown)
              have HV : Hid (u11 = .slice a' (2 * len0) c') := hv
              clear hv hown h0 h02 hrg hB2
              go_wp2
              go_meet
              case rel => exact ⟨a', c', HV.out, hR, hbr⟩
        case rest =>
          obtain ⟨ad, cd, rfl, hrd, hb3⟩ := hcut
          have hsR : Small (books (rep ts 2)) := by rw [rep_two, books_append]; exact small_append hs hs
          have hdR : dd (books (rep ts 2)) = L := by rw [rep_two, books_append, dd_twice, HL.out]
          have hba_w3 : Below wc.heap.size wc (wc.alloc (.cells #[.slice ad (2 * len0) cd, .slice a1 len1 cap1, .slice a2 len2 cap2] 29)) := (Below.refl _ _).alloc (Nat.le_refl _) _
          have q_w3 := books_as (L := L) ad (2 * len0) cd (.slice a1 len1 cap1) (.slice a2 len2 cap2) (rep ts 2) _ (hrd.below hba_w3) (by omega) hsR hdR
          go_wp2_with fail
          refine q_w3.mono ?_
          rintro _ w3 ⟨gd, c_gd, rfl, hr_gd, -, hb_w3⟩
          have hs_w3 : Below wc.heap.size wc w3 := hba_w3.trans (hb_w3.mono hba_w3.size)
          clear q_w3 hba_w3 hb_w3
          have hB3 : Below w.heap.size w w3 := hB2.trans ((hb3.trans (hs_w3.mono hb3.size)).mono hsz2)
          have hrg3 : Reads w3 ag L.length L := hrg.below (hb3.trans (hs_w3.mono hb3.size))
          clear hrg hrd hs_w3 hb3 hB2 hsz2 hsR hdR h02
          have hrg := hrg3
          clear hrg3
          have HXL : Hid ((books ts).length ≤ len0) := by show _ ≤ _; rw [books_length, h0.1]; exact Nat.le_refl _
          go_upto_block 6 with fail
          go_cut [17] from 25 to 141 (fun d wx => ∃ a c, d = .slice a len0 c ∧ ReadsI wx a len0 ((books ts).map bare) ∧ Below w3.heap.size w3 wx)
          case first =>
            go_wp2_with fail
            go_loopw [17, 18] (fun v i wr => ∃ k : Nat, k ≤ len0 ∧ i = .int .i64 k ∧ wr.ownsRow w3.heap.size 38 4 v k (cellsL (((books ts).map bare).take k)) ∧ Below w3.heap.size w3 wr) (fun _ i _ => len0 - (intOf i).toNat)
            case atStart => exact ⟨0, Nat.zero_le _, rfl, World.ownsRow_nil _ _ _ _, Below.refl _ _⟩
            case round =>
              obtain ⟨k, hk, rfl, hown, hbr⟩ := hrel
              by_cases hkn : k < len0
              · have hBw : Below w.heap.size w wr := hB3.trans (hbr.mono hB3.size)
                obtain ⟨b, off, rfl, hc⟩ := (h0.below hBw).2 (by omega)
                have e2 := (hc k hkn).2.2.1
                have htk : ((books ts).map bare).take (k + 1) = ((books ts).map bare).take k ++ [bare ((ts.getD k Itm.none).book)] := by
                  have hk1 : k < (books ts).length := by rw [books_length, h0.1]; exact hkn
                  have hk2 : k < ((books ts).map bare).length := by rw [List.length_map]; exact hk1
                  rw [List.take_succ_eq_append_getElem hk2, ← books_getD ts k (by rw [h0.1]; exact hkn)]
                  simp [List.getD, List.getElem?_eq_getElem hk1]
                generalize (ts.getD k Itm.none).book = x at htk e2
                have HT : Hid (((books ts).map bare).take (k + 1) = ((books ts).map bare).take k ++ [bare x]) := htk
                clear hc htk h0 hrg hr_gd hB3 hBw
                have hsz := hbr.size
                go_wp2_with (at_builtin; refine wpList_append_own _ rfl (.tmp 98) (.tmp 105) 26 rfl w3.heap.size 38 i38 (.agg #[.int .i64 0, .string ⟨#[]⟩, .string ⟨#[]⟩, .string ⟨#[]⟩]) 4 56 Try.underlying26 hi38 hz0 hz1 hz2 rfl (by decide) _ _ _ rfl (hown.alloc _) ⟨wr.heap.size, 0, none⟩ 1 1 (bare x).cells rfl rfl (fun j u hj => cells_new _ (bare x).cells 38 j u hj) (oneCell_itm (bare x)) ?c3 ?c4 ?c5 ?_)
                case c3 => unfold maxLen; omega
                case c4 => omega
                case c5 => simp; omega
                · intro v' w5 hown' hgrow _
                  have hB : Below w3.heap.size w3 w5 := (hbr.alloc hsz _).grown hgrow (by simp; omega) (own_ge hown)
                  have HO : Hid (w5.ownsRow w3.heap.size 38 4 v' (k + 1) (cellsL (((books ts).map bare).take (k + 1)))) := by
                    show w5.ownsRow w3.heap.size 38 4 v' (k + 1) (cellsL (((books ts).map bare).take (k + 1)))
                    rw [HT.out, cellsL_snoc]
                    exact hown'
                  clear hown' hgrow hown hbr e2
                  go_wp2
                  go_roundw
                  case rel => exact ⟨k + 1, by omega, by go_num, HO.out, hB⟩
                  case measure => simp [intOf]; omega
              · have hkk : k = len0 := by omega
                rw [hkk, List.take_of_length_le (by rw [List.length_map]; exact HXL.out)] at hown
                obtain ⟨a', c', hv⟩ := slice_of_own hown
                have hR : ReadsI wr a' len0 ((books ts).map bare) := readsI_own (by rw [← hv]; exact hown)
                have HV : Hid (u17 = .slice a' len0 c') := hv
                clear hv hown hkk h0 hrg hr_gd hB3
                go_wp2
                go_meet
                case rel => exact ⟨a', c', HV.out, hR, hbr⟩
          case rest =>
            obtain ⟨ab, cb, rfl, hrb, hb4⟩ := hcut
            have hsB : Small (books ((books ts).map bare)) := by rw [books_bare]; exact hs
            have hdB : dd (books ((books ts).map bare)) = L := by rw [books_bare, HL.out]
            have hba_w5 : Below wc.heap.size wc (wc.alloc (.cells #[.slice ab (len0) cb, .slice none 0 0, .slice none 0 0] 29)) := (Below.refl _ _).alloc (Nat.le_refl _) _
            have q_w5 := books_as (L := L) ab (len0) cb (.slice none 0 0) (.slice none 0 0) ((books ts).map bare) _ (hrb.below hba_w5) (by omega) hsB hdB
            go_wp2_with fail
            refine q_w5.mono ?_
            rintro _ w5 ⟨gb, c_gb, rfl, hr_gb, -, hb_w5⟩
            have hs_w5 : Below wc.heap.size wc w5 := hba_w5.trans (hb_w5.mono hba_w5.size)
            clear q_w5 hba_w5 hb_w5
            have hb35 := hb4.trans (hs_w5.mono hb4.size)
            have hB5 : Below w.heap.size w w5 := hB3.trans (hb35.mono hB3.size)
            have hrg := hrg.below hb35
            have hr_gd := hr_gd.below hb35
            clear hrb hs_w5 hb4 hb35 hB3 hsB hdB h0 HXL
            have HXL : Hid (L.length ≤ L.length) := Nat.le_refl _
            go_upto_block 8 with fail
            go_cut [21] from 25 to 141 (fun d wx => ∃ a c, d = .slice a L.length c ∧ ReadsI wx a L.length (L.map bare) ∧ Below w5.heap.size w5 wx)
            case first =>
              go_wp2_with fail
              go_loopw [21, 22] (fun v i wr => ∃ k : Nat, k ≤ L.length ∧ i = .int .i64 k ∧ wr.ownsRow w5.heap.size 38 4 v k (cellsL ((L.map bare).take k)) ∧ Below w5.heap.size w5 wr) (fun _ i _ => L.length - (intOf i).toNat)
              case atStart => exact ⟨0, Nat.zero_le _, rfl, World.ownsRow_nil _ _ _ _, Below.refl _ _⟩
              case round =>
                obtain ⟨k, hk, rfl, hown, hbr⟩ := hrel
                by_cases hkn : k < L.length
                · obtain ⟨b, off, rfl, hc⟩ := (hrg.below hbr).2 (by omega)
                  have e2 := hc k hkn
                  have htk : (L.map bare).take (k + 1) = (L.map bare).take k ++ [bare (L.getD k ByteArray.empty)] := by
                    have hk2 : k < (L.map bare).length := by rw [List.length_map]; exact hkn
                    rw [List.take_succ_eq_append_getElem hk2]
                    simp [List.getD, List.getElem?_eq_getElem hkn]
                  generalize L.getD k ByteArray.empty = x at htk e2
                  have HT : Hid ((L.map bare).take (k + 1) = (L.map bare).take k ++ [bare x]) := htk
                  clear hc htk hrg hr_gd hr_gb hB5
                  have hsz := hbr.size
                  go_wp2_with (at_builtin; refine wpList_append_own _ rfl (.tmp 117) (.tmp 123) 26 rfl w5.heap.size 38 i38 (.agg #[.int .i64 0, .string ⟨#[]⟩, .string ⟨#[]⟩, .string ⟨#[]⟩]) 4 56 Try.underlying26 hi38 hz0 hz1 hz2 rfl (by decide) _ _ _ rfl (hown.alloc _) ⟨wr.heap.size, 0, none⟩ 1 1 (bare x).cells rfl rfl (fun j u hj => cells_new _ (bare x).cells 38 j u hj) (oneCell_itm (bare x)) ?c3 ?c4 ?c5 ?_)
                  case c3 => unfold maxLen; omega
                  case c4 => omega
                  case c5 => simp; omega
                  · intro v' wn hown' hgrow _
                    have hB : Below w5.heap.size w5 wn := (hbr.alloc hsz _).grown hgrow (by simp; omega) (own_ge hown)
                    have HO : Hid (wn.ownsRow w5.heap.size 38 4 v' (k + 1) (cellsL ((L.map bare).take (k + 1)))) := by
                      show wn.ownsRow w5.heap.size 38 4 v' (k + 1) (cellsL ((L.map bare).take (k + 1)))
                      rw [HT.out, cellsL_snoc]
                      exact hown'
                    clear hown' hgrow hown hbr e2
                    go_wp2
                    go_roundw
                    case rel => exact ⟨k + 1, by omega, by go_num, HO.out, hB⟩
                    case measure => simp [intOf]; omega
                · have hkk : k = L.length := by omega
                  rw [hkk, List.take_of_length_le (by rw [List.length_map]; exact HXL.out)] at hown
                  obtain ⟨a', c', hv⟩ := slice_of_own hown
                  have hR : ReadsI wr a' L.length (L.map bare) := readsI_own (by rw [← hv]; exact hown)
                  have HV : Hid (u21 = .slice a' L.length c') := hv
                  clear hv hown hkk hrg hr_gd hr_gb hB5
                  go_wp2
                  go_meet
                  case rel => exact ⟨a', c', HV.out, hR, hbr⟩
            case rest =>
              obtain ⟨aa, ca, rfl, hra, hb6⟩ := hcut
              have hsA : Small (books (L.map bare)) := by rw [books_bare, HL.out]; exact small_dd hs
              have hdA : dd (books (L.map bare)) = L := by rw [books_bare, HL.out, dd_dd]
              have hba_w6 : Below wc.heap.size wc (wc.alloc (.cells #[.slice aa (L.length) ca, .slice none 0 0, .slice none 0 0] 29)) := (Below.refl _ _).alloc (Nat.le_refl _) _
              have q_w6 := books_as (L := L) aa (L.length) ca (.slice none 0 0) (.slice none 0 0) (L.map bare) _ (hra.below hba_w6) (by omega) hsA hdA
              go_wp2_with fail
              refine q_w6.mono ?_
              rintro _ w6 ⟨ga, c_ga, rfl, hr_ga, -, hb_w6⟩
              have hs_w6 : Below wc.heap.size wc w6 := hba_w6.trans (hb_w6.mono hba_w6.size)
              clear q_w6 hba_w6 hb_w6
              have hb56 := hb6.trans (hs_w6.mono hb6.size)
              have hB6 : Below w.heap.size w w6 := hB5.trans (hb56.mono hB5.size)
              have r0 := hrg.below hb56
              have r1 := hr_gd.below hb56
              have r2 := hr_gb.below hb56
              have r3 := hr_ga
              clear hrg hr_gd hr_gb hr_ga hra hb6 hs_w6 hb56 hB5 hsA hdA
              have et : eqS L L = true := decide_eq_true rfl
              have p1 := eq_any ag L.length cg L gd L.length c_gd L w6 r0 r1 mL mL
              have p2 := fun n => eq_any ag L.length cg L gb L.length c_gb L (w6.drewN n) r0 r2 mL mL
              have p3 := fun n => eq_any ag L.length cg L ga L.length c_ga L (w6.drewN n) r0 r3 mL mL
              rw [et] at p1
              simp only [et] at p2 p3
              clear et r0 r1 r2 r3
              go_wp2_with fail
              refine p1.mono ?_
              rintro _ w' ⟨rfl, n1, rfl⟩
              go_wp2_with fail
              refine (p2 n1).mono ?_
              rintro _ w' ⟨rfl, n2, hw2⟩
              rw [World.drewN_drewN] at hw2
              subst hw2
              go_wp2_with fail
              refine (p3 (n1 + n2)).mono ?_
              rintro _ w' ⟨rfl, n3, hw3⟩
              rw [World.drewN_drewN] at hw3
              subst hw3
              have hF : Below w.heap.size w (w6.drewN (n1 + n2 + n3)) := below_drewN hB6 _
              clear p1 p2 p3 hB6
              go_wp2
              go_ret
              exact ⟨rfl, hF⟩

end Go.Proofs.Qxb6628739a
