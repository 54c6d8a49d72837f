/-
  SEAT b6628739a: the walk of FnCookbooksFirstNamedOrderAtAnyCut, inside its bounds.
-/
import Derived.Test.Qxb6628739aGuards5
import Derived.Deep.DeepCutAuto
import Derived.Deep.CutBlock
namespace Go.Proofs.Qxb6628739a
open Go.ChangeShapes Go.WideShapes Go.ChangeAt Go.RowKit
open Go.Proofs.Qxb6628739a.Plain
set_option linter.unusedVariables false

/-- An Expansion in its box of three cells. -/
structure Box3 (x : World) (B : Nat) (v0 v1 v2 : Value) : Prop where
  c0 : x.cell? ⟨B, 0, none⟩ = some v0
  c1 : x.cell? ⟨B, 1, none⟩ = some v1
  c2 : x.cell? ⟨B, 2, none⟩ = some v2

theorem Box3.later {x y : World} {B : Nat} {v0 v1 v2 : Value} (h : Box3 x B v0 v1 v2) (hb : Below x.heap.size x y) : Box3 y B v0 v1 v2 :=
  ⟨cell_later hb h.c0, cell_later hb h.c1, cell_later hb h.c2⟩

theorem box3_new (W : World) (v0 v1 v2 : Value) (t : TypeId) : Box3 (W.alloc (.cells #[v0, v1, v2] t)) W.heap.size v0 v1 v2 := by
  have key : ∀ j u, [v0, v1, v2][j]? = some u → (W.alloc (.cells #[v0, v1, v2] t)).cell? ⟨W.heap.size, j, none⟩ = some u := by
    intro j u h
    have := cells_new W [v0, v1, v2] t j u h
    rw [Addr.add_lit, Nat.zero_add] at this
    exact this
  exact ⟨key 0 v0 rfl, key 1 v1 rfl, key 2 v2 rfl⟩

theorem small_take {xs : List ByteArray} (h : Small xs) (k : Nat) : Small (xs.take k) := by
  intro i hi
  have h1 : i < k := by simp at hi; omega
  have h2 : i < xs.length := by simp at hi; omega
  have := h i h2
  simpa only [List.getD, List.getElem?_take, if_pos h1] using this

theorem small_drop {xs : List ByteArray} (h : Small xs) (k : Nat) : Small (xs.drop k) := by
  intro i hi
  have h2 : k + i < xs.length := by simp at hi; omega
  have := h (k + i) h2
  simpa only [List.getD, List.getElem?_drop] using this

theorem books_append' (a b : List Itm) : books (a ++ b) = books a ++ books b := by simp [books]
theorem books_take (ts : List Itm) (k : Nat) : books (ts.take k) = (books ts).take k := by simp [books]
theorem books_drop (ts : List Itm) (k : Nat) : books (ts.drop k) = (books ts).drop k := by simp [books]

/-- The joined list when j entries of the right part have been looked at. -/
def joinedTo (Ll Lr : List ByteArray) (j : Nat) : List ByteArray := Ll ++ (Lr.take j).filter fun y => !has Ll y

theorem joinedTo_zero (Ll Lr : List ByteArray) : joinedTo Ll Lr 0 = Ll := by simp [joinedTo]

theorem joinedTo_all (Ll Lr : List ByteArray) (j : Nat) (h : Lr.length ≤ j) : joinedTo Ll Lr j = Ll ++ Lr.filter fun y => !has Ll y := by
  rw [joinedTo, List.take_of_length_le h]

theorem joinedTo_succ (Ll Lr : List ByteArray) (j : Nat) (h : j < Lr.length) : joinedTo Ll Lr (j + 1) = if has Ll (Lr.getD j ByteArray.empty) then joinedTo Ll Lr j else joinedTo Ll Lr j ++ [Lr.getD j ByteArray.empty] := by
  have e : Lr.getD j ByteArray.empty = Lr[j] := by simp [List.getD, List.getElem?_eq_getElem h]
  simp only [joinedTo]
  rw [e, List.take_succ_eq_append_getElem h, List.filter_append]
  by_cases hx : has Ll Lr[j] = true
  · simp [hx]
  · simp [hx]

theorem joinedTo_length (Ll Lr : List ByteArray) (j : Nat) : (joinedTo Ll Lr j).length ≤ Ll.length + Lr.length := by
  have h1 := List.length_filter_le (fun y => !has Ll y) (Lr.take j)
  have h2 := List.length_take_le' j Lr
  simp only [joinedTo, List.length_append]
  omega

theorem take_snocS (l : List ByteArray) (k : Nat) (h : k < l.length) : l.take (k + 1) = l.take k ++ [l.getD k ByteArray.empty] := by
  rw [List.take_succ_eq_append_getElem h]
  simp [List.getD, List.getElem?_eq_getElem h]

set_option maxRecDepth 100000 in
set_option maxHeartbeats 4000000 in
theorem top1_in (a0 : Option Addr) (len0 cap0 : Nat) (ts : List Itm) (k : Nat) (a1 : Option Addr) (len1 cap1 : Nat) (s1 : List ByteArray) (a2 : Option Addr) (len2 cap2 : Nat) (s2 : List ByteArray) (w : World) (h0 : ReadsI w a0 len0 ts) (h1 : Reads w a1 len1 s1) (h2 : Reads w a2 len2 s2) (hm1 : len1 ≤ maxLen) (hm2 : len2 ≤ maxLen) (hs : Small (books ts))
    (b0 : len0 ≤ 1024) (hk : k ≤ len0) :
    Calls Try.prog 3 #[.slice a0 len0 cap0, .int .i64 k, .slice a1 len1 cap1, .slice a2 len2 cap2] w fun e w' => e = .returned (.bool true) ∧ Below w.heap.size w w' := by
  obtain ⟨i9, hi9, hz0, hz1, hz2⟩ := info_parts Try.info9
  have hm0 : len0 ≤ maxLen := by unfold maxLen; omega
  have c5 := bytes5_any a0 len0 cap0 ts k a1 len1 cap1 s1 a2 len2 cap2 s2 w h0 h1 h2 hm0 hm1 hm2
  have c6 := size_any a0 len0 cap0 ts a1 len1 cap1 s1 a2 len2 cap2 s2 w h0 h1 h2 hm0 hm1 hm2 b0
  have n2 := fun wx a n c => Lib.run_eql_slice_nil (P := Try.prog) wx 23 9 a n c 0 0 Try.underlying23
  have tL : ts.length = len0 := h0.1
  have HTL : Hid (ts.length = len0) := tL
  have Hw : Hid ((ts.take len0).drop 0 = ts) := by show _ = _; rw [List.drop_zero, List.take_of_length_le (by rw [tL]; omega)]
  have Hl : Hid ((ts.take k).drop 0 = ts.take k) := rfl
  have Hr : Hid ((ts.take len0).drop k = ts.drop k) := by show _ = _; rw [List.take_of_length_le (by rw [tL]; omega)]
  obtain ⟨Lw, hLw⟩ : ∃ L, L = dd (books ts) := ⟨_, rfl⟩
  obtain ⟨Ll, hLl⟩ : ∃ L, L = dd (books (ts.take k)) := ⟨_, rfl⟩
  obtain ⟨Lr, hLr⟩ : ∃ L, L = dd (books (ts.drop k)) := ⟨_, rfl⟩
  have HLw : Hid (Lw = dd (books ts)) := hLw
  have HLl : Hid (Ll = dd (books (ts.take k))) := hLl
  have HLr : Hid (Lr = dd (books (ts.drop k))) := hLr
  have lw : Lw.length ≤ len0 := by rw [hLw, ← tL, ← books_length ts]; exact length_dd _
  have ll : Ll.length ≤ k := by
    have := length_dd (books (ts.take k))
    rw [books_length, List.length_take] at this
    rw [hLl]; omega
  have lr : Lr.length ≤ len0 - k := by
    have := length_dd (books (ts.drop k))
    rw [books_length, List.length_drop, tL] at this
    rw [hLr]; exact this
  have HHas : Hid (∀ i, i < len0 → has Lw ((ts.getD i Itm.none).book) = true) := by
    intro i hi
    rw [hLw, has_iff, mem_dd, ← books_getD ts i (by rw [tL]; exact hi)]
    have hi' : i < (books ts).length := by rw [books_length, tL]; exact hi
    simp [List.getD, List.getElem?_eq_getElem hi']
  have HPrev : Hid (∀ j, j < Lw.length → prev (books ts) j < fst (books ts) (Lw.getD j ByteArray.empty) ∧ prev (books ts) (j + 1) = fst (books ts) (Lw.getD j ByteArray.empty)) := by
    intro j hj
    rw [hLw] at hj ⊢
    exact ⟨prev_lt (books ts) j hj, rfl⟩
  have HJoin : Hid (Lw = Ll ++ Lr.filter fun y => !has Ll y) := by
    show Lw = _
    have e : books ts = books (ts.take k) ++ books (ts.drop k) := by rw [← books_append', List.take_append_drop]
    rw [hLw, hLl, hLr, e, dd_append]
  clear tL h1 h2 hLw hLl hLr
  have hd1 : decide (len0 < Lw.length) = false := by simp; omega
  have hd2 : decide (k < Ll.length) = false := by simp; omega
  go_enter Try.func3, Try.ntmps3
  go_wp2_with fail
  refine c5.mono ?_
  rintro _ w' ⟨⟨b, rfl⟩, hw⟩
  obtain rfl := hw.symm
  cases b
  · clear c5 c6
    go_wp2
    go_ret
    exact ⟨rfl, Below.refl _ _⟩
  · go_wp2_with fail
    refine c6.mono ?_
    rintro _ w' ⟨⟨b, rfl⟩, hw⟩
    obtain rfl := hw.symm
    clear c5 c6
    cases b
    · go_wp2
      go_ret
      exact ⟨rfl, Below.refl _ _⟩
    · have q1 := toItems_any a0 len0 cap0 0 len0 ts w h0 b0 (Nat.zero_le _) (Nat.le_refl _)
      rw [Hw.out, Nat.sub_zero] at q1
      go_wp2_with fail
      refine q1.mono ?_
      rintro _ w1 ⟨aw, cw, rfl, rw1, hb1⟩
      clear q1
      have hA1 : Below w1.heap.size w1 (w1.alloc (.cells #[Value.slice aw len0 cw, Value.slice a1 len1 cap1, Value.slice a2 len2 cap2] 29)) := (Below.refl _ _).alloc (Nat.le_refl _) _
      have box1 : Box3 (w1.alloc (.cells #[Value.slice aw len0 cw, Value.slice a1 len1 cap1, Value.slice a2 len2 cap2] 29)) w1.heap.size (.slice aw len0 cw) (.slice a1 len1 cap1) (.slice a2 len2 cap2) := box3_new _ _ _ _ _
      have hB1 : Below w.heap.size w (w1.alloc (.cells #[Value.slice aw len0 cw, Value.slice a1 len1 cap1, Value.slice a2 len2 cap2] 29)) := hb1.trans (hA1.mono hb1.size)
      have rw1 := rw1.below hA1
      have q2 := toItems_any a0 len0 cap0 0 k ts _ (h0.below hB1) b0 (Nat.zero_le _) hk
      rw [Hl.out, Nat.sub_zero] at q2
      go_wp2_with fail
      refine q2.mono ?_
      rintro _ w2 ⟨al, cl, rfl, rl, hb2⟩
      have box1 := box1.later hb2
      have rw1 := rw1.below hb2
      have hB2 := hB1.trans (hb2.mono hB1.size)
      clear q2 hA1 hB1 hb1 hb2
      have hA2 : Below w2.heap.size w2 (w2.alloc (.cells #[Value.slice al k cl, Value.slice a1 len1 cap1, Value.slice a2 len2 cap2] 29)) := (Below.refl _ _).alloc (Nat.le_refl _) _
      have box2 : Box3 (w2.alloc (.cells #[Value.slice al k cl, Value.slice a1 len1 cap1, Value.slice a2 len2 cap2] 29)) w2.heap.size (.slice al k cl) (.slice a1 len1 cap1) (.slice a2 len2 cap2) := box3_new _ _ _ _ _
      have box1 := box1.later hA2
      have rw1 := rw1.below hA2
      have rl := rl.below hA2
      have hB3 : Below w.heap.size w (w2.alloc (.cells #[Value.slice al k cl, Value.slice a1 len1 cap1, Value.slice a2 len2 cap2] 29)) := hB2.trans (hA2.mono hB2.size)
      have q3 := toItems_any a0 len0 cap0 k len0 ts _ (h0.below hB3) b0 hk (Nat.le_refl _)
      rw [Hr.out] at q3
      go_wp2_with fail
      refine q3.mono ?_
      rintro _ w3 ⟨ar, cr, rfl, rr, hb3⟩
      have box1 := box1.later hb3
      have box2 := box2.later hb3
      have rw1 := rw1.below hb3
      have rl := rl.below hb3
      have hB4 := hB3.trans (hb3.mono hB3.size)
      clear q3 hA2 hB3 hB2 hb3
      have hA3 : Below w3.heap.size w3 (w3.alloc (.cells #[Value.slice ar (len0 - k) cr, Value.slice a1 len1 cap1, Value.slice a2 len2 cap2] 29)) := (Below.refl _ _).alloc (Nat.le_refl _) _
      have box3 : Box3 (w3.alloc (.cells #[Value.slice ar (len0 - k) cr, Value.slice a1 len1 cap1, Value.slice a2 len2 cap2] 29)) w3.heap.size (.slice ar (len0 - k) cr) (.slice a1 len1 cap1) (.slice a2 len2 cap2) := box3_new _ _ _ _ _
      have box1 := box1.later hA3
      have box2 := box2.later hA3
      have rw1 := rw1.below hA3
      have rl := rl.below hA3
      have rr := rr.below hA3
      have hB5 : Below w.heap.size w (w3.alloc (.cells #[Value.slice ar (len0 - k) cr, Value.slice a1 len1 cap1, Value.slice a2 len2 cap2] 29)) := hB4.trans (hA3.mono hB4.size)
      clear hA3 hB4 Hw Hl Hr
      have sl : Small (books (ts.take k)) := by rw [books_take]; exact small_take hs k
      have sr : Small (books (ts.drop k)) := by rw [books_drop]; exact small_drop hs k
      have p1 := books_any aw len0 cw (.slice a1 len1 cap1) (.slice a2 len2 cap2) ts _ rw1 (by omega) hs
      rw [← HLw.out] at p1
      obtain ⟨g0, g1, g2⟩ := box1
      go_wp2_with fail
      refine p1.mono ?_
      rintro _ w4 ⟨bw, dw, rfl, gw, nw, hb4⟩
      have box2 := box2.later hb4
      have box3 := box3.later hb4
      have rl := rl.below hb4
      have rr := rr.below hb4
      have hB6 := hB5.trans (hb4.mono hB5.size)
      clear p1 hB5 hb4 rw1 g0 g1 g2
      have p2 := books_any al k cl (.slice a1 len1 cap1) (.slice a2 len2 cap2) (ts.take k) w4 rl (by omega) sl
      rw [← HLl.out] at p2
      obtain ⟨g0, g1, g2⟩ := box2
      go_wp2_with fail
      refine p2.mono ?_
      rintro _ w5 ⟨bl, dl, rfl, gl, -, hb5⟩
      have box3 := box3.later hb5
      have rr := rr.below hb5
      have gw := gw.below hb5
      have hB7 := hB6.trans (hb5.mono hB6.size)
      clear p2 hB6 hb5 rl g0 g1 g2
      have p3 := books_any ar (len0 - k) cr (.slice a1 len1 cap1) (.slice a2 len2 cap2) (ts.drop k) w5 rr (by omega) sr
      rw [← HLr.out] at p3
      obtain ⟨g0, g1, g2⟩ := box3
      go_wp2_with fail
      refine p3.mono ?_
      rintro _ w6 ⟨br, dr, rfl, gr, -, hb6⟩
      have gw := gw.below hb6
      have gl := gl.below hb6
      have hB8 := hB7.trans (hb6.mono hB7.size)
      clear p3 hB7 hb6 rr g0 g1 g2 sl sr
      have h06 := h0.below hB8
      clear h0
      obtain ⟨B, hB1', hB2'⟩ : ∃ B : Bool, bw.isNone = B ∧ ((len0 : Int) == 0) = B := by
        refine ⟨bw.isNone, rfl, ?_⟩
        rw [Bool.eq_iff_iff, Option.isNone_iff_eq_none, nw]
        have := HTL.out
        constructor
        · intro h
          apply List.eq_nil_of_length_eq_zero
          simp at h
          omega
        · rintro rfl
          simp at this ⊢
          omega
      clear nw
      have mw : Lw.length ≤ maxLen := by omega
      have ml : Ll.length ≤ maxLen := by omega
      have mr : Lr.length ≤ maxLen := by omega
      have hd3 : decide ((len0 : Int) - (k : Int) < (Lr.length : Int)) = false := by simp; omega
      go_upto_if 91 with fail
      go_cut [8] from 23 to 156 (fun _ wx => wx = w6)
      case first =>
        clear gw gl gr h06 hB8
        go_wp2
        go_meet
        case rel => rfl
      case rest =>
        obtain rfl := hcut.symm
        clear hB1' hB2' n2 hd1 hd2 hd3
        go_upto_block 0 with fail
        go_cut [16] from 23 to 156 (fun _ wx => wx = w6)
        case first =>
          go_wp2_with fail
          go_loopw [16] (fun i wr => ∃ j : Nat, j ≤ len0 ∧ i = .int .i64 j ∧ wr = w6) (fun i _ => len0 - (intOf i).toNat)
          case atStart => exact ⟨0, Nat.zero_le _, rfl, rfl⟩
          case round =>
            obtain ⟨j, hj, rfl, hwr⟩ := hrel
            obtain rfl := hwr.symm
            by_cases hjn : j < len0
            · obtain ⟨b, off, rfl, hc⟩ := h06.2 (by omega)
              have hck := (hc j hjn).2.2.1
              have hx := HHas.out j hjn
              clear hc
              generalize (ts.getD j Itm.none).book = x at hck hx
              have q9 := has_any bw Lw.length dw Lw x w6 gw mw
              rw [hx] at q9
              clear gw gl gr h06 hB8 hx
              go_wp2_with (go_at_call 9; refine q9.mono ?_; rintro _ w' ⟨rfl, hw'⟩; obtain rfl := hw'.symm)
              go_roundw
              case rel => exact ⟨j + 1, by omega, by go_num, trivial⟩
              case measure => simp [intOf]; omega
            · clear gw gl gr h06 hB8
              go_wp2
              go_meet
              case rel => rfl
        case rest =>
          obtain rfl := hcut.symm
          clear HHas
          go_upto_block 2 with fail
          go_cut [18] from 23 to 156 (fun _ wx => wx = w6)
          case first =>
            go_wp2_with fail
            go_loopw [17, 18] (fun pv i wr => ∃ j : Nat, j ≤ Lw.length ∧ i = .int .i64 j ∧ pv = .int .i64 (prev (books ts) j) ∧ wr = w6) (fun _ i _ => Lw.length - (intOf i).toNat)
            case atStart => exact ⟨0, Nat.zero_le _, rfl, rfl, rfl⟩
            case round =>
              obtain ⟨j, hj, rfl, rfl, hwr⟩ := hrel
              obtain rfl := hwr.symm
              by_cases hjn : j < Lw.length
              · obtain ⟨b, off, rfl, hc⟩ := gw.2 (by omega)
                have hck := hc j hjn
                obtain ⟨hp1, hp2⟩ := HPrev.out j hjn
                clear hc
                have q10 := first_any a0 len0 cap0 ts (Lw.getD j ByteArray.empty) w6 h06 hm0
                have HP2 : Hid (prev (books ts) (j + 1) = fst (books ts) (Lw.getD j ByteArray.empty)) := hp2
                clear hp2
                generalize fst (books ts) (Lw.getD j ByteArray.empty) = F at hp1 HP2 q10
                generalize Lw.getD j ByteArray.empty = x at hck q10
                generalize prev (books ts) j = Pv at hp1
                clear gw gl gr h06 hB8
                go_wp2_with (go_at_call 10; refine q10.mono ?_; rintro _ w' ⟨rfl, hw'⟩; obtain rfl := hw'.symm)
                go_roundw
                case rel => exact ⟨j + 1, by omega, by go_num, by rw [HP2.out], trivial⟩
                case measure => simp [intOf]; omega
              · clear gw gl gr h06 hB8
                go_wp2
                go_meet
                case rel => rfl
          case rest =>
            obtain rfl := hcut.symm
            clear HPrev h06
            have hsz6 := hB8.size
            go_upto_block 4 with fail
            go_cut [20] from 23 to 156 (fun v wx => wx.ownsRow w6.heap.size 9 1 v Ll.length (Ll.map Value.string) ∧ Below w6.heap.size w6 wx)
            case first =>
              go_wp2_with fail
              go_loopw [20, 21] (fun v i wr => ∃ j : Nat, j ≤ Ll.length ∧ i = .int .i64 j ∧ wr.ownsRow w6.heap.size 9 1 v j ((Ll.take j).map Value.string) ∧ Below w6.heap.size w6 wr) (fun _ i _ => Ll.length - (intOf i).toNat)
              case atStart => exact ⟨0, Nat.zero_le _, rfl, World.ownsRow_nil _ _ _ _, Below.refl _ _⟩
              case round =>
                obtain ⟨j, hj, rfl, hown, hbr⟩ := hrel
                by_cases hjn : j < Ll.length
                · obtain ⟨b, off, rfl, hc⟩ := (gl.below hbr).2 (by omega)
                  have hck := hc j hjn
                  have htk := take_snocS Ll j hjn
                  generalize Ll.getD j ByteArray.empty = x at hck htk
                  have HT : Hid (Ll.take (j + 1) = Ll.take j ++ [x]) := htk
                  have hsz := hbr.size
                  clear hc htk gw gl gr hB8
                  go_wp2_with (at_builtin; refine wpList_append_own _ rfl (.tmp 127) (.tmp 132) 23 rfl w6.heap.size 9 i9 (.string ⟨#[]⟩) 1 16 Try.underlying23 hi9 hz0 hz1 hz2 rfl (by decide) _ _ _ rfl (hown.alloc _) ⟨wr.heap.size, 0, none⟩ 1 1 [.string x] rfl rfl (one_new _ _ _) (oneCell_str x) ?c3 ?c4 ?c5 ?_)
                  case c3 => unfold maxLen; omega
                  case c4 => omega
                  case c5 => simp; omega
                  · intro v' wn hown' hgrow _
                    have hB : Below w6.heap.size w6 wn := (hbr.alloc hsz _).grown hgrow (by simp; omega) (own_ge hown)
                    have HO : Hid (wn.ownsRow w6.heap.size 9 1 v' (j + 1) ((Ll.take (j + 1)).map Value.string)) := by
                      show wn.ownsRow w6.heap.size 9 1 v' (j + 1) ((Ll.take (j + 1)).map Value.string)
                      rw [HT.out, List.map_append, List.map_take]
                      exact hown'
                    clear hown' hgrow hown hbr hck
                    go_wp2
                    go_roundw
                    case rel => exact ⟨j + 1, by omega, by go_num, HO.out, hB⟩
                    case measure => simp [intOf]; omega
                · have hjj : j = Ll.length := by omega
                  rw [hjj, List.take_of_length_le (Nat.le_refl _)] at hown
                  clear hjj gw gl gr hB8
                  go_wp2
                  go_meet
                  case rel => exact ⟨hown, hbr⟩
            case rest =>
              obtain ⟨hownL, hbL⟩ := hcut
              have HOL : Hid (wc.ownsRow w6.heap.size 9 1 u20 Ll.length (Ll.map Value.string)) := hownL
              clear hownL
              go_upto_block 6 with fail
              go_cut [20] from 23 to 156 (fun v wx => ∃ a c, v = .slice a Lw.length c ∧ Reads wx a Lw.length Lw ∧ Below w6.heap.size w6 wx)
              case first =>
                go_wp2_with fail
                go_loopw [20, 22] (fun v i wr => ∃ j : Nat, j ≤ Lr.length ∧ i = .int .i64 j ∧ wr.ownsRow w6.heap.size 9 1 v (joinedTo Ll Lr j).length ((joinedTo Ll Lr j).map Value.string) ∧ Below w6.heap.size w6 wr) (fun _ i _ => Lr.length - (intOf i).toNat)
                case atStart => exact ⟨0, Nat.zero_le _, rfl, by rw [joinedTo_zero]; exact HOL.out, hbL⟩
                case round =>
                  obtain ⟨j, hj, rfl, hown, hbr⟩ := hrel
                  clear HOL hbL
                  by_cases hjn : j < Lr.length
                  · obtain ⟨b, off, rfl, hc⟩ := (gr.below hbr).2 (by omega)
                    have hck := hc j hjn
                    have hjs := joinedTo_succ Ll Lr j hjn
                    have hjl := joinedTo_length Ll Lr j
                    have q9 := has_any bl Ll.length dl Ll (Lr.getD j ByteArray.empty) wr (gl.below hbr) ml
                    generalize Lr.getD j ByteArray.empty = x at hck hjs q9
                    generalize joinedTo Ll Lr j = J at hjs hjl hown
                    have HJ : Hid (joinedTo Ll Lr (j + 1) = if has Ll x then J else J ++ [x]) := hjs
                    have hsz := hbr.size
                    clear hc hjs gw gl gr hB8
                    generalize hhx : has Ll x = hx at q9
                    have HX : Hid (has Ll x = hx) := hhx
                    clear hhx
                    cases hx
                    · have HO0 : Hid (wr.ownsRow w6.heap.size 9 1 u20 J.length (J.map Value.string)) := hown
                      clear hown
                      go_wp2_with (first | (go_at_call 9; refine q9.mono ?_; rintro _ w' ⟨rfl, hw'⟩; obtain rfl := hw'.symm) | (at_builtin; refine wpList_append_own _ rfl (.tmp 147) (.tmp 152) 23 rfl w6.heap.size 9 i9 (.string ⟨#[]⟩) 1 16 Try.underlying23 hi9 hz0 hz1 hz2 rfl (by decide) _ _ _ rfl (HO0.out.alloc _) ⟨wr.heap.size, 0, none⟩ 1 1 [.string x] rfl rfl (one_new _ _ _) (oneCell_str x) ?c3 ?c4 ?c5 ?_))
                      case c3 => unfold maxLen; omega
                      case c4 => omega
                      case c5 => simp; omega
                      · intro v' wn hown' hgrow _
                        have hB : Below w6.heap.size w6 wn := (hbr.alloc hsz _).grown hgrow (by simp; omega) (own_ge HO0.out)
                        have HO : Hid (wn.ownsRow w6.heap.size 9 1 v' (joinedTo Ll Lr (j + 1)).length ((joinedTo Ll Lr (j + 1)).map Value.string)) := by
                          show wn.ownsRow w6.heap.size 9 1 v' (joinedTo Ll Lr (j + 1)).length ((joinedTo Ll Lr (j + 1)).map Value.string)
                          rw [HJ.out, HX.out, if_neg (by simp), List.length_append, List.map_append]
                          exact hown'
                        clear hown' hgrow HO0 hbr hck q9
                        go_wp2
                        go_roundw
                        case rel => exact ⟨j + 1, by omega, by go_num, HO.out, hB⟩
                        case measure => simp [intOf]; omega
                    · have HO : Hid (wr.ownsRow w6.heap.size 9 1 u20 (joinedTo Ll Lr (j + 1)).length ((joinedTo Ll Lr (j + 1)).map Value.string)) := by
                        show wr.ownsRow w6.heap.size 9 1 u20 (joinedTo Ll Lr (j + 1)).length ((joinedTo Ll Lr (j + 1)).map Value.string)
                        rw [HJ.out, HX.out, if_pos rfl]
                        exact hown
                      clear hown
                      go_wp2_with (go_at_call 9; refine q9.mono ?_; rintro _ w' ⟨rfl, hw'⟩; obtain rfl := hw'.symm)
                      go_roundw
                      case rel => exact ⟨j + 1, by omega, by go_num, HO.out, hbr⟩
                      case measure => simp [intOf]; omega
                  · rw [joinedTo_all Ll Lr j (by omega), ← HJoin.out] at hown
                    obtain ⟨a', c', hv⟩ := slice_of_own hown
                    have hR : Reads wr a' Lw.length Lw := reads_own (by rw [← hv]; exact hown)
                    have HV : Hid (u20 = .slice a' Lw.length c') := hv
                    clear hv hown gw gl gr hB8
                    go_wp2
                    go_meet
                    case rel => exact ⟨a', c', HV.out, hR, hbr⟩
              case rest =>
                obtain ⟨aj, cj, rfl, hrj, hbj⟩ := hcut
                have et : eqS Lw Lw = true := decide_eq_true rfl
                have q11 := eq_any bw Lw.length dw Lw aj Lw.length cj Lw wc (gw.below hbj) hrj mw mw
                rw [et] at q11
                have hF : Below w.heap.size w wc := hB8.trans (hbj.mono hsz6)
                clear et hrj hbj hbL HOL gw gl gr hB8
                go_wp2_with fail
                refine q11.mono ?_
                rintro _ w' ⟨rfl, n1, rfl⟩
                have hF' : Below w.heap.size w (wc.drewN n1) := below_drewN hF _
                clear q11 hF
                go_wp2
                go_ret
                exact ⟨rfl, hF'⟩

end Go.Proofs.Qxb6628739a
