/- THE WALK of FnClientHelloMarshalConnectionIDAppendsOneExtension. -/
import Derived.Test.Qxb6615713aHelloMore
namespace Go.Proofs.Qxb6615713a.fnClientHelloMarshalConnectionIDAppendsOneExtension
open Go.RowKit
set_option linter.unusedSimpArgs false
set_option linter.unusedVariables false

theorem hide {p : Prop} (h : p) : Hid p := h

set_option maxHeartbeats 8000000 in
set_option maxRecDepth 100000 in
theorem walk (arr : Array Value) (m : CH) (w : World) (hsz : arr.size = 45) (hH : HelloAt (w.alloc (.cells arr 42)) (w.heap.size + 1) w.heap.size m) :
    Calls Try.prog 6 #[.agg arr] w fun e w' => e = .returned (.bool true) ∧ Below w.heap.size w w' := by
  have hB1 : Below w.heap.size w (w.alloc (.cells arr 42)) := (Below.refl w.heap.size w).alloc (Nat.le_refl _) _
  have hrow : (w.alloc (.cells arr 42)).heap[w.heap.size]? = some (.cells arr 42 (0, 0)) := heap_alloc_new w _
  have HH : Hid (HelloAt (w.alloc (.cells arr 42)) (w.heap.size + 1) w.heap.size m) := hH
  have HROW : Hid ((w.alloc (.cells arr 42)).heap[w.heap.size]? = some (.cells arr 42 (0, 0))) := hrow
  clear hH hrow
  go_enter Try.func6, Try.ntmps6
  go_wp2_with (refine wpList_load_row rfl 42 _ rfl w.heap.size rfl 42 arr (0, 0) _ HROW.out Try.underlying42 rfl (by rw [Try.info42, hsz]) ?_)
  have hz := zzBytes33 arr m (w.alloc (.cells arr 42)) (HH.out.again _ (Below.refl _ _))
  refine hz.mono ?_
  rintro e w2 ⟨B, rfl, hb2⟩
  clear hz
  cases B with
  | false =>
    go_wp2_with fail
    go_ret
    exact ⟨rfl, hB1.trans (hb2.mono (by simp))⟩
  | true =>
    have h2 : HelloAt w2 (w.heap.size + 1) w.heap.size m := HH.out.below (hb2.mono (by simp))
    have B2 : Below (w.heap.size + 1) (w.alloc (.cells arr 42)) w2 := hb2.mono (by simp)
    clear hb2
    go_wp2_with fail
    refine (tooBig w.heap.size (w.heap.size + 1) m _ h2).mono ?_
    rintro e w3 ⟨B, rfl, hf3, hsm⟩
    have hs2 := B2.size
    simp only [World.size_alloc] at hs2
    have B3 : Below (w.heap.size + 1) (w.alloc (.cells arr 42)) w3 := B2.trans (hf3.below (by omega) (fun k hk => by cases hk))
    have h3 : HelloAt w3 (w.heap.size + 1) w.heap.size m := HH.out.below B3
    have S3 : w.heap.size + 1 ≤ w3.heap.size := by have := B3.size; simpa using this
    clear hf3 h2 B2 hs2
    cases B with
    | true =>
      go_wp2_with fail
      go_ret
      exact ⟨rfl, hB1.trans (B3.mono (by omega))⟩
    | false =>
      have hS := hsm rfl
      clear hsm
      by_cases hd : 255 < m.sid.length ∨ 255 < m.lck.length ∨ 255 < m.cmp.length ∨ 65535 < 2 * m.cs.length ∨ 255 < 2 * m.sv.length ∨ 255 < m.cid.length
      · have HD : Hid (255 < m.sid.length ∨ 255 < m.lck.length ∨ 255 < m.cmp.length ∨ 65535 < 2 * m.cs.length ∨ 255 < 2 * m.sv.length ∨ 255 < m.cid.length) := hd
        clear hd
        go_wp2_with fail
        refine (outOfDomain_yes w.heap.size (w.heap.size + 1) m true _ h3 hS (by rcases HD.out with h | h | h | h | h | h; exact .inl h; exact .inr (.inl h); exact .inr (.inr (.inl h)); exact .inr (.inr (.inr (.inl h))); exact .inr (.inr (.inr (.inr (.inl h)))); exact .inr (.inr (.inr (.inr (.inr ⟨rfl, h⟩)))))).mono ?_
        rintro e w4 ⟨rfl, rfl⟩
        go_wp2_with fail
        go_ret
        exact ⟨rfl, hB1.trans (B3.mono (by omega))⟩
      · have d1 : m.sid.length ≤ 255 := by omega
        have d2 : m.lck.length ≤ 255 := by omega
        have d3 : m.cmp.length ≤ 255 := by omega
        have d4 : 2 * m.cs.length ≤ 65535 := by omega
        have d5 : 2 * m.sv.length ≤ 255 := by omega
        have d6 : m.cid.length ≤ 255 := by omega
        clear hd
        by_cases hx : (65535 : Int) < (extLen m true : Int)
        · go_wp2_with fail
          refine (outOfDomain_ext w.heap.size (w.heap.size + 1) m true _ h3 hS d1 d2 d3 d4 d5 (fun _ => d6)).mono ?_
          rintro e w4 ⟨rfl, rfl⟩
          rw [decide_eq_true hx]
          go_wp2_with fail
          go_ret
          exact ⟨rfl, hB1.trans (B3.mono (by omega))⟩
        · obtain ⟨F0, F1⟩ := fits0 d1 d2 d3 d4 d5 d6 (by omega)
          go_wp2_with fail
          refine (outOfDomain_ext w.heap.size (w.heap.size + 1) m true _ h3 hS d1 d2 d3 d4 d5 (fun _ => d6)).mono ?_
          rintro e w4 ⟨rfl, rfl⟩
          rw [decide_eq_false (by omega)]
          have HF0 : Hid (Fits { m with has := false }) := F0
          have HF1 : Hid (Fits { m with has := true }) := F1
          have HS : Hid (Small m) := hS
          have HT := hide (two_of m)
          have B4 : Below w.heap.size w w4 := hB1.trans (B3.mono (by omega))
          have h4 : HelloAt w4 w4.heap.size w.heap.size m := h3.mono S3
          clear F0 F1 hS hB1 HROW hx
          go_wp2_with fail
          refine (build w.heap.size m false _ h4 HS.out).mono ?_
          rintro e w5 ⟨rfl, h5, b5⟩
          go_wp2_with fail
          refine (marshal w4.heap.size _ _ h5 HF0.out).mono ?_
          rintro e w6 ⟨xa, xc, rfl, xb, xd, xl, b6⟩
          have s5 := b5.size
          have s6 := b6.size
          have B6 : Below w4.heap.size w4 w6 := b5.trans (b6.mono s5)
          have h6 : HelloAt w6 w6.heap.size w.heap.size m := (h4.below B6).mono (by omega)
          clear h5 b5 b6
          go_wp2_with fail
          refine (build w.heap.size m true _ h6 HS.out).mono ?_
          rintro e w7 ⟨rfl, h7, b7⟩
          go_wp2_with fail
          refine (marshal w6.heap.size _ _ h7 HF1.out).mono ?_
          rintro e w8 ⟨ya, yc, rfl, yb, yd, yl, b8⟩
          have s7 := b7.size
          have s8 := b8.size
          have B8 : Below w6.heap.size w6 w8 := b7.trans (b8.mono s7)
          have h8 : HelloAt w8 w8.heap.size w.heap.size m := (h6.below B8).mono (by omega)
          have xd8 := xd.move (fun hn => B8.block xb (xd.lt hn))
          clear h7 b7 b8 xd
          obtain ⟨da, dn, dc, db, dq, dd, _⟩ := h8.sid
          obtain ⟨la, ln, lc, lb, lq, ld, _⟩ := h8.lck
          obtain ⟨ua, un, uc, ub, uq, ud, _⟩ := h8.cs
          obtain ⟨pa, pn, pc, pb, pq, pd, _⟩ := h8.cmp
          obtain ⟨ia, in', ic, ib, iq, id, _⟩ := h8.cid
          have e1 := dd.len
          have e2 := ld.len
          have e3 := ud.len
          have e4 := pd.len
          have e5 := id.len
          have HL : Hid ((headB m).length = 35 + dn + 1 + ln + 2 + 2 * un + 1 + pn) := by
            show _ = _
            rw [headB_length m HH.out.rndL, e1, e2, e3, e4]
            omega
          rw [e1] at d1
          rw [e2] at d2
          rw [e4] at d3
          rw [e3] at d4
          rw [e5] at d6
          have HX0 : Hid (extLen m false ≤ 65535) := HF0.out.ext
          have HY0 : Hid (extLen m true = extLen m false + 5 + in') := by show _ = _; rw [extLen_true, e5]; omega
          have H8 : Hid (HelloAt w8 w8.heap.size w.heap.size m) := h8
          have BF : Below w.heap.size w w8 := (B4.trans (B6.mono (by omega))).trans (B8.mono (by omega))
          have SF : Hid (w.heap.size ≤ w8.heap.size) := by show _ ≤ _; omega
          clear h8 h6 h4 h3 B8 B6 B4 B3 S3 dd ld ud pd s5 s6 s7 s8 xl yl e1 e2 e3 e4
          generalize hA : marshalB { m with has := false } = A at *
          generalize hB : marshalB { m with has := true } = Bb at *
          clear hA hB
          generalize (headB m).length = h at *
          have he0 := HX0.out
          have he1 := HY0.out
          generalize hee : extLen m false = e0 at *
          have HEE : Hid (extLen m false = e0) := hee
          clear hee
          generalize extLen m true = e1 at *
          rw [e5] at HT
          have hh := HL.out
          subst hh
          subst he1
          have LA := HT.out.la
          have LB := HT.out.lb
          obtain ⟨xo, hxa, xcell⟩ := xd8.cell (by omega)
          obtain ⟨yo, hya, ycell⟩ := yd.cell (by omega)
          subst hxa
          subst hya
          rw [LA] at xcell xd8 ⊢
          rw [LB] at ycell yd ⊢
          have XC : Hid _ := xcell
          have YC : Hid _ := ycell
          have xcap := xd8.cap
          have ycap := yd.cap
          have xmax := xd8.max
          have ymax := yd.max
          unfold maxLen at xmax ymax
          have XW : Hid _ := xd8.wf
          have YW : Hid _ := yd.wf
          have ID : Hid (Rd w8 ib ia in' ic m.cid) := id
          clear xd8 yd xcell ycell LA LB id HL HX0 HY0
          go_wp2_with fail
          refine (extBlockLen w.heap.size w8.heap.size m false _ H8.out HS.out).mono ?_
          rintro e w9 ⟨rfl, rfl⟩
          rw [HEE.out]
          go_wp2_with fail
          have XL : Hid (xb < w9.heap.size) := World.block_lt_of_cell? w9 _ (XC.out 0 (by omega))
          have YL : Hid (yb < w9.heap.size) := World.block_lt_of_cell? w9 _ (YC.out 0 (by omega))
          have IQ : Hid (w9.cell? ⟨w.heap.size, 43, none⟩ = some (.slice ia in' ic)) := iq
          have QL : Hid (w.heap.size < w9.heap.size) := World.block_lt_of_cell? w9 _ iq
          clear dq lq uq pq iq
          go_loopw [9] (fun i wr => ∃ j : Nat, j ≤ 35 + dn + 1 + ln + 2 + 2 * un + 1 + pn ∧ i = .int .i64 j ∧ Fr [] w9 wr) (fun i _ => 35 + dn + 1 + ln + 2 + 2 * un + 1 + pn - (intOf i).toNat)
          case atStart => exact ⟨0, Nat.zero_le _, rfl, Fr.refl _ _⟩
          case round =>
            obtain ⟨j, hj, rfl, hfr⟩ := hrel
            by_cases hlt : j < 35 + dn + 1 + ln + 2 + 2 * un + 1 + pn
            · have c1 := (World.cell?_of_block (a := ⟨yb, yo + j, none⟩) (hfr.block yb YL.out (by simp))).trans (YC.out j (by omega))
              have c2 := (World.cell?_of_block (a := ⟨xb, xo + j, none⟩) (hfr.block xb XL.out (by simp))).trans (XC.out j (by omega))
              rw [HT.out.lo j hlt] at c1
              generalize A.getD j 0 = x at c1 c2
              go_wp2_with fail
              go_region
              all_goals (try go_wp2_with fail)
              go_roundw
              case rel => exact ⟨j + 1, by omega, by go_num, hfr.drew⟩
              case measure => simp [intOf]; omega
            · obtain rfl : j = 35 + dn + 1 + ln + 2 + 2 * un + 1 + pn := by omega
              have c1 := (World.cell?_of_block (a := ⟨yb, yo + (35 + dn + 1 + ln + 2 + 2 * un + 1 + pn), none⟩) (hfr.block yb YL.out (by simp))).trans (YC.out _ (by omega))
              have c2 := (World.cell?_of_block (a := ⟨xb, xo + (35 + dn + 1 + ln + 2 + 2 * un + 1 + pn), none⟩) (hfr.block xb XL.out (by simp))).trans (XC.out _ (by omega))
              have c3 := (World.cell?_of_block (a := ⟨yb, yo + (35 + dn + 1 + ln + 2 + 2 * un + 1 + pn + 1), none⟩) (hfr.block yb YL.out (by simp))).trans (YC.out _ (by omega))
              have c4 := (World.cell?_of_block (a := ⟨xb, xo + (35 + dn + 1 + ln + 2 + 2 * un + 1 + pn + 1), none⟩) (hfr.block xb XL.out (by simp))).trans (XC.out _ (by omega))
              rw [HT.out.b0] at c1
              rw [HT.out.a0] at c2
              rw [HT.out.b1] at c3
              rw [HT.out.a1] at c4
              go_wp2_with fail
              clear c1 c2 c3 c4
              obtain ⟨wa, rfl⟩ : ∃ x : World, x = wr := ⟨_, rfl⟩
              have FA : Hid (Fr [] w9 wa) := hfr
              clear hfr
              go_loopw [10] (fun i wr => ∃ j : Nat, 35 + dn + 1 + ln + 2 + 2 * un + 1 + pn + 2 ≤ j ∧ j ≤ 35 + dn + 1 + ln + 2 + 2 * un + 1 + pn + 2 + e0 ∧ i = .int .i64 j ∧ Fr [] w9 wr) (fun i _ => 35 + dn + 1 + ln + 2 + 2 * un + 1 + pn + 2 + e0 - (intOf i).toNat)
              case atStart => exact ⟨35 + dn + 1 + ln + 2 + 2 * un + 1 + pn + 2, Nat.le_refl _, by omega, by go_num, FA.out⟩
              case round =>
                obtain ⟨j, hj0, hj, rfl, hfr⟩ := hrel
                by_cases hlt : j < 35 + dn + 1 + ln + 2 + 2 * un + 1 + pn + 2 + e0
                · have c1 := (World.cell?_of_block (a := ⟨yb, yo + j, none⟩) (hfr.block yb YL.out (by simp))).trans (YC.out j (by omega))
                  have c2 := (World.cell?_of_block (a := ⟨xb, xo + j, none⟩) (hfr.block xb XL.out (by simp))).trans (XC.out j (by omega))
                  rw [HT.out.mid j hj0 hlt] at c1
                  generalize A.getD j 0 = x at c1 c2
                  go_wp2_with fail
                  go_region
                  all_goals (try go_wp2_with fail)
                  go_roundw
                  case rel => exact ⟨j + 1, by omega, by omega, by go_num, hfr.drew⟩
                  case measure => simp [intOf]; omega
                · obtain rfl : j = 35 + dn + 1 + ln + 2 + 2 * un + 1 + pn + 2 + e0 := by omega
                  have c0 := (World.cell?_of_block (a := ⟨yb, yo + (35 + dn + 1 + ln + 2 + 2 * un + 1 + pn + 2 + e0), none⟩) (hfr.block yb YL.out (by simp))).trans (YC.out _ (by omega))
                  have c1 := (World.cell?_of_block (a := ⟨yb, yo + (35 + dn + 1 + ln + 2 + 2 * un + 1 + pn + 2 + e0 + 1), none⟩) (hfr.block yb YL.out (by simp))).trans (YC.out _ (by omega))
                  have c2 := (World.cell?_of_block (a := ⟨yb, yo + (35 + dn + 1 + ln + 2 + 2 * un + 1 + pn + 2 + e0 + 2), none⟩) (hfr.block yb YL.out (by simp))).trans (YC.out _ (by omega))
                  have c3 := (World.cell?_of_block (a := ⟨yb, yo + (35 + dn + 1 + ln + 2 + 2 * un + 1 + pn + 2 + e0 + 3), none⟩) (hfr.block yb YL.out (by simp))).trans (YC.out _ (by omega))
                  have c4 := (World.cell?_of_block (a := ⟨yb, yo + (35 + dn + 1 + ln + 2 + 2 * un + 1 + pn + 2 + e0 + 4), none⟩) (hfr.block yb YL.out (by simp))).trans (YC.out _ (by omega))
                  rw [HT.out.p0] at c0
                  rw [HT.out.p1] at c1
                  rw [HT.out.p2] at c2
                  rw [HT.out.p3] at c3
                  rw [HT.out.p4] at c4
                  go_wp2_with fail
                  clear c0 c1 c2 c3 c4
                  obtain ⟨wb, rfl⟩ : ∃ x : World, x = wr := ⟨_, rfl⟩
                  have FB : Hid (Fr [] w9 wb) := hfr
                  clear hfr
                  go_loopw [12] (fun i wr => ∃ j : Nat, j ≤ in' ∧ i = .int .i64 j ∧ Fr [] w9 wr) (fun i _ => in' - (intOf i).toNat)
                  case atStart => exact ⟨0, Nat.zero_le _, rfl, FB.out⟩
                  case round =>
                    obtain ⟨j, hj, rfl, hfr⟩ := hrel
                    by_cases hlt : j < in'
                    · obtain ⟨io, hia, icell⟩ := ID.out.cell (by omega)
                      subst hia
                      have c1 := (World.cell?_of_block (a := ⟨yb, yo + (35 + dn + 1 + ln + 2 + 2 * un + 1 + pn + 2 + e0 + 5 + j), none⟩) (hfr.block yb YL.out (by simp))).trans (YC.out _ (by omega))
                      have c2 := (World.cell?_of_block (a := ⟨ib, io + j, none⟩) (hfr.block ib (ID.out.lt (by omega)) (by simp))).trans (icell j hlt)
                      have c3 := (World.cell?_of_block (a := ⟨w.heap.size, 43, none⟩) (hfr.block w.heap.size QL.out (by simp))).trans IQ.out
                      have icap := ID.out.cap
                      rw [HT.out.tl j hlt] at c1
                      generalize m.cid.getD j 0 = x at c1 c2
                      clear icell
                      go_wp2_with fail
                      go_region
                      all_goals (try go_wp2_with fail)
                      go_roundw
                      case rel => exact ⟨j + 1, by omega, by go_num, hfr.drew⟩
                      case measure => simp [intOf]; omega
                    · obtain rfl : j = in' := by omega
                      go_wp2_with fail
                      go_ret
                      exact ⟨rfl, BF.trans (hfr.below SF.out (fun k hk => by cases hk))⟩
end Go.Proofs.Qxb6615713a.fnClientHelloMarshalConnectionIDAppendsOneExtension
