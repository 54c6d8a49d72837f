/-
  SEAT b6628696a: the walk of FnCoversReflexiveAndSplitsAtAnyCut, inside its bounds.
-/
import Derived.Test.Qxb6628696aTop1
namespace Go.Proofs.Qxb6628696a
open Go.ChangeShapes Go.WideShapes Go.ChangeAt Go.RowKit
open Go.Proofs.Qxb6628696a.Plain
set_option linter.unusedVariables false

theorem covers_self (n : Bool) (s : List ByteArray) : covers n s n s = true := by
  cases n <;> simp [covers, miss_self]

/-- The cells below a world's size, in a later world. -/
theorem bcell {W w1 : World} (hb : Below W.heap.size W w1) : ∀ b o, b < W.heap.size → w1.cell? ⟨b, o, none⟩ = W.cell? ⟨b, o, none⟩ :=
  fun b o h => hb.cell (p := ⟨b, o, none⟩) h

theorem reads_take {w : World} {a : Option Addr} {len : Nat} {o : List ByteArray} (h : Reads w a len o) {k : Nat} (hk : k ≤ len) : Reads w a k (o.take k) := by
  refine ⟨by simp [h.1, hk], fun hp => ?_⟩
  obtain ⟨b, off, rfl, hc⟩ := h.2 (by omega)
  refine ⟨b, off, rfl, fun i hi => ?_⟩
  rw [hc i (by omega)]
  simp only [List.getD, List.getElem?_take, if_pos hi]

theorem reads_drop {w : World} {a : Addr} {a' : Option Addr} {len : Nat} {o : List ByteArray} (h : Reads w (some a) len o) {k : Nat} (hk : k ≤ len) (ha : k < len → a' = some (a.add k)) : Reads w a' (len - k) (o.drop k) := by
  refine ⟨by simp [h.1], fun hp => ?_⟩
  obtain ⟨b, off, e, hc⟩ := h.2 (by omega)
  obtain rfl := Option.some.inj e
  refine ⟨b, off + k, by rw [ha (by omega), add_plain], fun i hi => ?_⟩
  rw [Nat.add_assoc, hc (k + i) (by omega)]
  simp only [List.getD, List.getElem?_drop]

set_option maxHeartbeats 1000000 in
theorem top1_in (a0 : Option Addr) (len0 cap0 : Nat) (s : List ByteArray) (a1 : Option Addr) (len1 cap1 : Nat) (o : List ByteArray) (k : Nat) (w : World) (k0 : Came w a0 len0 cap0 s) (k1 : Came w a1 len1 cap1 o)
    (b0 : len0 ≤ 4096) (b1 : len1 ≤ 4096) (hk : k ≤ len1) :
    Calls Try.prog 3 #[.slice a0 len0 cap0, .slice a1 len1 cap1, .int .i64 k] w fun e w' => e = .returned (.bool true) ∧ Below w.heap.size w w' := by
  have m0 : len0 ≤ maxLen := Nat.le_trans k0.lc k0.max
  have m1 : len1 ≤ maxLen := Nat.le_trans k1.lc k1.max
  have c5 := bytes5_any a0 len0 cap0 s a1 len1 cap1 o k w k0.reads k1.reads m0 m1
  have c6 := fun t => addBytes_any t a0 len0 cap0 s w k0.reads m0
  have c6' := fun t => addBytes_any t a1 len1 cap1 o w k1.reads m1
  have n2 := fun wx a n c => Lib.run_eql_slice_nil (P := Try.prog) wx 22 9 a n c 0 0 Try.underlying22
  have hb1 : Below w.heap.size w (w.alloc (.cells #[.slice a0 len0 cap0] 26)) := (Below.refl _ _).alloc (Nat.le_refl _) _
  have c7 := covers_any a0 len0 cap0 s a0 len0 cap0 s _ (k0.reads.below hb1) (k0.reads.below hb1) m0 m0
  rw [covers_self] at c7
  go_enter Try.func3, Try.ntmps3
  go_wp2_with fail
  refine c5.mono ?_
  rintro e w' ⟨⟨b, rfl⟩, hw⟩
  obtain rfl := hw.symm
  cases b
  · clear c5 c6 c6' c7
    go_wp2
    go_ret
    exact ⟨rfl, Below.refl _ _⟩
  · go_wp2_with fail
    refine (c6 _).mono ?_
    rintro e w' ⟨⟨n, rfl⟩, hw⟩
    obtain rfl := hw.symm
    go_wp2_with fail
    refine (c6' _).mono ?_
    rintro e w' ⟨⟨n', rfl⟩, hw⟩
    obtain rfl := hw.symm
    clear c5 c6 c6'
    by_cases hn : 1048576 < n'
    · go_wp2
      go_ret
      exact ⟨rfl, Below.refl _ _⟩
    · go_wp2_with fail
      refine c7.mono ?_
      rintro e w2 ⟨rfl, hb2⟩
      clear c7
      have hB2 : Below w.heap.size w w2 := hb1.trans (hb2.mono (by simp))
      have hc2 : w2.cell? ⟨w.heap.size, 0, none⟩ = some (.slice a0 len0 cap0) := by
        rw [hb2.cell (by simp)]
        simp
      have hs2 : w.heap.size < w2.heap.size := by have := hb2.size; simp at this; omega
      have r0 := k0.reads.below hB2
      have r1 := k1.reads.below hB2
      have lc := k1.lc
      have nl := k1.nil
      clear k0 k1 hb1 hb2
      go_wp2_with fail
      refine (covers_any a0 len0 cap0 s a1 len1 cap1 o _ r0 r1 m0 m1).mono ?_
      rintro e w3 ⟨rfl, hb3⟩
      have hB3 : Below w.heap.size w w3 := hB2.trans (hb3.mono (by omega))
      have hc3 : w3.cell? ⟨w.heap.size, 0, none⟩ = some (.slice a0 len0 cap0) := by rw [hb3.cell (by exact hs2)]; exact hc2
      have hs3 : w.heap.size < w3.heap.size := by have := hb3.size; omega
      have r0 := r0.below hb3
      have r1 := r1.below hb3
      clear hB2 hc2 hs2 hb3
      cases a0 with
      | none =>
        clear r0 r1
        go_wp2
        go_ret
        exact ⟨rfl, hB3⟩
      | some ad0 =>
        cases a1 with
        | none =>
          clear r0 r1
          go_wp2
          go_ret
          exact ⟨rfl, hB3⟩
        | some ad1 =>
          go_wp2_with fail
          have rl : Reads w3 (some ad1) k (o.take k) := reads_take r1 hk
          have hlt : (k : Int) ≤ (cap1 : Int) := by omega
          have c8 := covers_any (some ad0) len0 cap0 s (some ad1) k cap1 (o.take k) w3.drew (r0.below (Below.refl _ _).drew) (rl.below (Below.refl _ _).drew) m0 (Nat.le_trans hk m1)
          have e8 : covers (some ad0).isNone s (some ad1).isNone (o.take k) = !miss s (o.take k) := rfl
          have e0 : covers false s false o = !miss s o := rfl
          rw [e8] at c8
          simp only [e0]
          have HV : Hid ((!miss s o) = ((!miss s (o.take k)) && !miss s (o.drop k))) := by
            show (!miss s o) = _
            have e1 := miss_append s (o.take k) (o.drop k)
            rw [List.take_append_drop] at e1
            rw [e1, Bool.not_or]
          have c9 : ∀ wx, Below w3.heap.size w3 wx → Calls Try.prog 7 #[.agg #[.slice (some ad0) len0 cap0], .agg #[.slice (if cap1 = k then some ad1 else some (ad1.add k)) (len1 - k) (cap1 - k)]] wx fun e w' => e = .returned (.bool (!miss s (o.drop k))) ∧ Below wx.heap.size wx w' := by
            intro wx hbx
            have r9 : Reads wx (if cap1 = k then some ad1 else some (ad1.add k)) (len1 - k) (o.drop k) := reads_drop (r1.below hbx) hk (fun h => by rw [if_neg (by omega)])
            have := covers_any (some ad0) len0 cap0 s (if cap1 = k then some ad1 else some (ad1.add k)) (len1 - k) (cap1 - k) (o.drop k) wx (r0.below hbx) r9 m0 (Nat.le_trans (Nat.sub_le _ _) m1)
            have e9 : (if cap1 = k then some ad1 else some (ad1.add k)).isNone = false := by split <;> rfl
            rw [e9] at this
            exact this
          clear e8 e0 rl
          generalize (!miss s (o.take k)) = v8 at c8 HV
          generalize (!miss s (o.drop k)) = v9 at c9 HV
          generalize (!miss s o) = v0 at HV
          clear r0 r1
          go_cut [10] (fun x wx => x = .bool v8 ∧ Below w3.heap.size w3 wx)
          case first =>
            clear c9
            go_region_with (go_at_call 7; refine c8.mono ?_; rintro e w4 ⟨rfl, hb4⟩)
            all_goals
              go_wp2
              go_meet
              case rel => exact ⟨rfl, (Below.refl _ _).drew.trans hb4⟩
          case rest =>
            obtain ⟨rfl, hb4⟩ := hcut
            have hc4 : wc.cell? ⟨w.heap.size, 0, none⟩ = some (.slice (some ad0) len0 cap0) := by rw [hb4.cell (by exact hs3)]; exact hc3
            have hB4 : Below w.heap.size w wc := hB3.trans (hb4.mono (by omega))
            have hs4 : w.heap.size ≤ wc.heap.size := hB4.size
            have c9 := c9 wc.drew hb4.drew
            clear hc3 hB3 c8 hb4
            have hlt2 : (k : Int) ≤ (len1 : Int) := by omega
            go_upto_region 19 with fail
            go_cut [11] (fun x wx => x = .bool v9 ∧ Below w.heap.size w wx)
            case first =>
              by_cases hck : cap1 = k
              · obtain rfl := hck
                rw [if_pos rfl, Nat.sub_self, Nat.sub_eq_zero_of_le lc] at c9
                go_region_with (go_at_call 7; refine c9.mono ?_; rintro e w5 ⟨rfl, hb5⟩)
                all_goals
                  go_wp2
                  go_meet
                  case rel => exact ⟨rfl, hB4.drew.trans (hb5.mono hs4)⟩
              · rw [if_neg hck] at c9
                go_region_with (go_at_call 7; refine c9.mono ?_; rintro e w5 ⟨rfl, hb5⟩)
                all_goals
                  go_wp2
                  go_meet
                  case rel => exact ⟨rfl, hB4.drew.trans (hb5.mono hs4)⟩
            case rest =>
              obtain ⟨rfl, hb5⟩ := hcut
              clear c9 hc4 hB4
              cases v8 <;> cases v9
              all_goals
                obtain rfl := HV.out
                go_wp2
                go_ret
                exact ⟨rfl, hb5⟩

end Go.Proofs.Qxb6628696a
