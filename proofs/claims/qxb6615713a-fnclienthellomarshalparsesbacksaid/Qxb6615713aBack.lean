/- THE WALK of FnClientHelloMarshalParsesBack. -/
import Derived.Test.Qxb6615713aBackPlain
namespace Go.Proofs.Qxb6615713a.fnClientHelloMarshalParsesBack
open Go.RowKit
set_option linter.unusedSimpArgs false
set_option linter.unusedVariables false

theorem hide {p : Prop} (h : p) : Hid p := h

set_option maxHeartbeats 16000000 in
set_option maxRecDepth 100000 in
theorem walk (arr : Array Value) (m : CH) (w : World) (hsz : arr.size = 45) (hH : HelloAt (w.alloc (.cells arr 42)) (w.heap.size + 1) w.heap.size m) :
    Calls Try.prog 5 #[.agg arr] w fun e w' => e = .returned (.bool true) ∧ Below w.heap.size w w' := by
  have hB1 : Below w.heap.size w (w.alloc (.cells arr 42)) := (Below.refl w.heap.size w).alloc (Nat.le_refl _) _
  have hrow : (w.alloc (.cells arr 42)).heap[w.heap.size]? = some (.cells arr 42 (0, 0)) := heap_alloc_new w _
  have HH : Hid (HelloAt (w.alloc (.cells arr 42)) (w.heap.size + 1) w.heap.size m) := hH
  have HROW : Hid ((w.alloc (.cells arr 42)).heap[w.heap.size]? = some (.cells arr 42 (0, 0))) := hrow
  clear hH hrow
  go_enter Try.func5, Try.ntmps5
  go_wp2_with (refine wpList_load_row rfl 42 _ rfl w.heap.size rfl 42 arr (0, 0) _ HROW.out Try.underlying42 rfl (by rw [Try.info42, hsz]) ?_)
  have hz := zzBytes22 arr m (w.alloc (.cells arr 42)) (HH.out.again _ (Below.refl _ _))
  refine hz.mono ?_
  rintro e w2 ⟨B, rfl, hb2⟩
  clear hz
  cases B with
  | false =>
    go_wp2_with fail
    go_ret
    exact ⟨rfl, hB1.trans (hb2.mono (by simp))⟩
  | true =>
    have h2 : HelloAt w2 (w.heap.size + 1) w.heap.size m := HH.out.below (hb2.mono (by simp))
    have B2 : Below (w.heap.size + 1) (w.alloc (.cells arr 42)) w2 := hb2.mono (by simp)
    clear hb2
    go_wp2_with fail
    refine (tooBig w.heap.size (w.heap.size + 1) m _ h2).mono ?_
    rintro e w3 ⟨B, rfl, hf3, hsm⟩
    have hs2 := B2.size
    simp only [World.size_alloc] at hs2
    have B3 : Below (w.heap.size + 1) (w.alloc (.cells arr 42)) w3 := B2.trans (hf3.below (by omega) (fun k hk => by cases hk))
    have h3 : HelloAt w3 (w.heap.size + 1) w.heap.size m := HH.out.below B3
    have S3 : w.heap.size + 1 ≤ w3.heap.size := by have := B3.size; simpa using this
    have chas := h3.has
    clear hf3 h2 B2 hs2
    cases B with
    | true =>
      go_wp2_with fail
      go_ret
      exact ⟨rfl, hB1.trans (B3.mono (by omega))⟩
    | false =>
      have hS := hsm rfl
      clear hsm
      by_cases hd : 255 < m.sid.length ∨ 255 < m.lck.length ∨ 255 < m.cmp.length ∨ 65535 < 2 * m.cs.length ∨ 255 < 2 * m.sv.length ∨ (m.has = true ∧ 255 < m.cid.length)
      · have HD : Hid (255 < m.sid.length ∨ 255 < m.lck.length ∨ 255 < m.cmp.length ∨ 65535 < 2 * m.cs.length ∨ 255 < 2 * m.sv.length ∨ (m.has = true ∧ 255 < m.cid.length)) := hd
        clear hd
        go_wp2_with fail
        refine (outOfDomain_yes w.heap.size (w.heap.size + 1) m m.has _ h3 hS HD.out).mono ?_
        rintro e w4 ⟨rfl, rfl⟩
        go_wp2_with fail
        go_ret
        exact ⟨rfl, hB1.trans (B3.mono (by omega))⟩
      · have HD : Hid (m.sid.length ≤ 255 ∧ m.lck.length ≤ 255 ∧ m.cmp.length ≤ 255 ∧ 2 * m.cs.length ≤ 65535 ∧ 2 * m.sv.length ≤ 255 ∧ (m.has = true → m.cid.length ≤ 255)) := dom_no hd
        clear hd
        by_cases hx : (65535 : Int) < (extLen m m.has : Int)
        · go_wp2_with fail
          refine (outOfDomain_ext w.heap.size (w.heap.size + 1) m m.has _ h3 hS HD.out.1 HD.out.2.1 HD.out.2.2.1 HD.out.2.2.2.1 HD.out.2.2.2.2.1 HD.out.2.2.2.2.2).mono ?_
          rintro e w4 ⟨rfl, rfl⟩
          rw [decide_eq_true hx]
          go_wp2_with fail
          go_ret
          exact ⟨rfl, hB1.trans (B3.mono (by omega))⟩
        · have HF : Hid (Fits m) := ⟨HD.out.1, HD.out.2.1, HD.out.2.2.2.1, HD.out.2.2.1, HD.out.2.2.2.2.1, HD.out.2.2.2.2.2, by omega⟩
          go_wp2_with fail
          refine (outOfDomain_ext w.heap.size (w.heap.size + 1) m m.has _ h3 hS HD.out.1 HD.out.2.1 HD.out.2.2.1 HD.out.2.2.2.1 HD.out.2.2.2.2.1 HD.out.2.2.2.2.2).mono ?_
          rintro e w4 ⟨rfl, rfl⟩
          rw [decide_eq_false (by omega)]
          have HS : Hid (Small m) := hS
          have B4 : Hid (Below w.heap.size w w4) := hB1.trans (B3.mono (by omega))
          have h4 : Hid (HelloAt w4 w4.heap.size w.heap.size m) := h3.mono S3
          clear hS hB1 HROW hx h3 B3 S3 HD HH
          go_wp2_with fail
          refine (build w.heap.size m m.has _ h4.out HS.out).mono ?_
          rintro e w5 ⟨rfl, h5, b5⟩
          go_wp2_with fail
          refine (marshal w4.heap.size m _ h5 HF.out).mono ?_
          rintro e w6 ⟨ea, ec, rfl, eb, ed, el, b6⟩
          have K6 : Hid (Below w4.heap.size w4 w6) := b5.trans (b6.mono b5.size)
          have ED : Hid (Rd w6 eb ea (marshalB m).length ec (marshalB m)) := ed
          clear h5 b5 b6 ed el chas
          have LB : Hid (Lens m) := lens_of HF.out
          clear HF HS
          go_wp2_with fail
          refine (rnew eb ea _ ec _ _ ED.out).mono ?_
          rintro e w7 ⟨rfl, h7, f7⟩
          have K7 : Hid (Below w4.heap.size w4 w7) := stp0 K6.out f7
          have G7 : Hid (Rg w7 w6.heap.size eb ([m.ver / 256, m.ver % 256] ++ (m.rnd ++ (vec 1 m.sid ++ (vec 1 m.lck ++ (vec 2 (u16s m.cs) ++ (vec 1 m.cmp ++ (vec 2 (extsB m) ++ [])))))))) := by rw [marshalB_split] at h7; exact h7
          have L6 : Hid (w4.heap.size ≤ w6.heap.size) := K6.out.size
          clear h7 f7 ED K6
          have HBV : Hid (beV [m.ver / 256, m.ver % 256] = m.ver) := beV_two _ h4.out.verB.1
          have HWR : Hid (IntKind.u32.wrap m.ver = m.ver) := wrap_u32 _ h4.out.verB.1 h4.out.verB.2
          generalize hr1 : w6.heap.size = r1 at *
          clear hr1
          have c7 := (K7.out.cell (p := ⟨w.heap.size, 0, none⟩) h4.out.qp).trans h4.out.ver
          go_wp2_with fail
          go_region_held3 (fun w' => w'.cell? ⟨w.heap.size, 0, none⟩ = some (.int .u16 m.ver)) (go_keep)
            (first | (go_at_call 27; refine (ruint r1 eb 2 [m.ver / 256, m.ver % 256] _ w7.drew (Rg.drew G7.out) rfl (by omega)).mono ?_; rintro e w8 ⟨rfl, h8, f8⟩; have K8 : Hid (Below w4.heap.size w4 w8) := stp1 K7.out.drew f8 L6.out; have c8 := (K8.out.cell (p := ⟨w.heap.size, 0, none⟩) h4.out.qp).trans h4.out.ver; have G8 : Hid (Rg w8 r1 eb (m.rnd ++ (vec 1 m.sid ++ (vec 1 m.lck ++ (vec 2 (u16s m.cs) ++ (vec 1 m.cmp ++ (vec 2 (extsB m) ++ []))))))) := h8; clear h8 f8; rw [HBV.out]))
          rw [HWR.out]
          clear c7 c8 K7 G7
          go_wp2_with fail
          refine (rtake r1 eb 32 m.rnd _ _ G8.out h4.out.rndL).mono ?_
          rintro e w9 ⟨ra, rfl, h9, g9, f9, ne9⟩
          have K9 : Hid (Below w4.heap.size w4 w9) := stp1 K8.out f9 L6.out
          have R9 : Hid (Rd w9 eb ra 32 32 m.rnd) := h9
          have G9 : Hid (Rg w9 r1 eb (vec 1 m.sid ++ (vec 1 m.lck ++ (vec 2 (u16s m.cs) ++ (vec 1 m.cmp ++ (vec 2 (extsB m) ++ [])))))) := g9
          clear h9 g9 f9 ne9 K8 G8
          obtain ⟨ro, hra, rcell⟩ := R9.out.cell (by omega)
          subst hra
          have RC : Hid (∀ j, j < 32 → w9.cell? ⟨eb, ro + j, none⟩ = some (.int .u8 (m.rnd.getD j 0))) := rcell
          have ME : Hid (∀ j, j < 32 → w9.cell? ⟨w.heap.size, 1 + j, none⟩ = some (.int .u8 (m.rnd.getD j 0))) := fun j hj => (K9.out.cell (p := ⟨w.heap.size, 1 + j, none⟩) h4.out.qp).trans (h4.out.rnd j hj)
          clear rcell R9
          go_wp2_with fail
          go_loopw [6] (fun i wr => ∃ j : Nat, j ≤ 32 ∧ i = .int .i64 j ∧ Fr [] w9 wr) (fun i _ => 32 - (intOf i).toNat)
          case atStart => exact ⟨0, Nat.zero_le _, rfl, Fr.refl _ _⟩
          case round =>
            obtain ⟨j, hj, rfl, hfr⟩ := hrel
            by_cases hlt : j < 32
            · have c1 := (World.cell?_of_block (a := ⟨eb, ro + j, none⟩) (hfr.block eb (World.block_lt_of_cell? w9 _ (RC.out j hlt)) (by simp))).trans (RC.out j hlt)
              have c2 := (World.cell?_of_block (a := ⟨w.heap.size, 1 + j, none⟩) (hfr.block _ (World.block_lt_of_cell? w9 _ (ME.out j hlt)) (by simp))).trans (ME.out j hlt)
              generalize m.rnd.getD j 0 = x at c1 c2
              go_wp2_with fail
              go_quiet (fail)
              go_wp2_with fail
              go_roundw
              case rel => exact ⟨j + 1, by omega, by go_num, hfr.drewN _⟩
              case measure => simp [intOf]; omega
            · obtain rfl : j = 32 := by omega
              have K10 : Hid (Below w4.heap.size w4 wr) := stp0 K9.out hfr
              have G10 : Hid (Rg wr r1 eb (vec 1 m.sid ++ (vec 1 m.lck ++ (vec 2 (u16s m.cs) ++ (vec 1 m.cmp ++ (vec 2 (extsB m) ++ [])))))) := Rg.fr0 G9.out hfr
              obtain ⟨w10, rfl⟩ : ∃ x : World, x = wr := ⟨_, rfl⟩
              clear RC ME hfr K9 G9
              obtain ⟨a, n, c, b, dq, dd, dl⟩ := h4.out.sid
              have c10 := (K10.out.cell (p := ⟨w.heap.size, 33, none⟩) h4.out.qp).trans dq
              have DQ : Hid _ := dq
              clear dq
              have hlen : Hid ((m.sid).length = n) := dd.len
              go_wp2_with fail
              go_region_held3 (fun w' => w'.cell? ⟨w.heap.size, 33, none⟩ = some (.slice a n c)) (go_keep)
                (first
                  | (go_at_call 13; refine (rvec r1 eb 1 n (m.sid) (vec 1 m.lck ++ (vec 2 (u16s m.cs) ++ (vec 1 m.cmp ++ (vec 2 (extsB m) ++ [])))) w10.drew (Rg.drew G10.out) hlen.out (by omega) LB.out.sid).mono ?_; rintro e w11 ⟨a11, rfl, h3, g3, f3, _⟩; have K11 : Hid (Below w4.heap.size w4 w11) := stp1 K10.out.drew f3 L6.out; have c11 := (K11.out.cell (p := ⟨w.heap.size, 33, none⟩) h4.out.qp).trans DQ.out; have q4 : Hid (Rg w11 r1 eb (vec 1 m.lck ++ (vec 2 (u16s m.cs) ++ (vec 1 m.cmp ++ (vec 2 (extsB m) ++ []))))) := g3; have q5 : Hid (Rd w11 eb a11 n n (m.sid)) := h3; clear h3 g3 f3)
                  | (go_at_call 16; refine (equal_yes eb b a11 a n n c m.sid w11 q5.out (Rd.move dd fun hn => K11.out.block _ (dl hn))).mono ?_; rintro e w12 ⟨rfl, f4⟩; have K12 : Hid (Below w4.heap.size w4 w12) := stp0 K11.out f4; have c12 := (K12.out.cell (p := ⟨w.heap.size, 33, none⟩) h4.out.qp).trans DQ.out; have G12 : Hid (Rg w12 r1 eb (vec 1 m.lck ++ (vec 2 (u16s m.cs) ++ (vec 1 m.cmp ++ (vec 2 (extsB m) ++ []))))) := Rg.fr0 q4.out f4; clear f4))
              clear c10 c11 c12 K10 K11 G10 q4 q5 DQ dd dl hlen
              obtain ⟨a, n, c, b, dq, dd, dl⟩ := h4.out.lck
              have c12 := (K12.out.cell (p := ⟨w.heap.size, 34, none⟩) h4.out.qp).trans dq
              have DQ : Hid _ := dq
              clear dq
              have hlen : Hid ((m.lck).length = n) := dd.len
              go_wp2_with fail
              go_region_held3 (fun w' => w'.cell? ⟨w.heap.size, 34, none⟩ = some (.slice a n c)) (go_keep)
                (first
                  | (go_at_call 13; refine (rvec r1 eb 1 n (m.lck) (vec 2 (u16s m.cs) ++ (vec 1 m.cmp ++ (vec 2 (extsB m) ++ []))) w12.drew (Rg.drew G12.out) hlen.out (by omega) LB.out.lck).mono ?_; rintro e w13 ⟨a13, rfl, h3, g3, f3, _⟩; have K13 : Hid (Below w4.heap.size w4 w13) := stp1 K12.out.drew f3 L6.out; have c13 := (K13.out.cell (p := ⟨w.heap.size, 34, none⟩) h4.out.qp).trans DQ.out; have q4 : Hid (Rg w13 r1 eb (vec 2 (u16s m.cs) ++ (vec 1 m.cmp ++ (vec 2 (extsB m) ++ [])))) := g3; have q5 : Hid (Rd w13 eb a13 n n (m.lck)) := h3; clear h3 g3 f3)
                  | (go_at_call 16; refine (equal_yes eb b a13 a n n c m.lck w13 q5.out (Rd.move dd fun hn => K13.out.block _ (dl hn))).mono ?_; rintro e w14 ⟨rfl, f4⟩; have K14 : Hid (Below w4.heap.size w4 w14) := stp0 K13.out f4; have c14 := (K14.out.cell (p := ⟨w.heap.size, 34, none⟩) h4.out.qp).trans DQ.out; have G14 : Hid (Rg w14 r1 eb (vec 2 (u16s m.cs) ++ (vec 1 m.cmp ++ (vec 2 (extsB m) ++ [])))) := Rg.fr0 q4.out f4; clear f4))
              clear c12 c13 c14 K12 K13 G12 q4 q5 DQ dd dl hlen
              obtain ⟨a, n, c, b, dq, dd, dl⟩ := h4.out.cs
              have c14 := (K14.out.cell (p := ⟨w.heap.size, 35, none⟩) h4.out.qp).trans dq
              have DQ : Hid _ := dq
              clear dq
              have hlen : Hid ((u16s m.cs).length = (2 * n)) := (by show (u16s m.cs).length = 2 * n; rw [u16s_length, dd.len])
              go_wp2_with fail
              go_region_held3 (fun w' => w'.cell? ⟨w.heap.size, 35, none⟩ = some (.slice a n c)) (go_keep)
                (first
                  | (go_at_call 13; refine (rvec r1 eb 2 (2 * n) (u16s m.cs) (vec 1 m.cmp ++ (vec 2 (extsB m) ++ [])) w14.drew (Rg.drew G14.out) hlen.out (by omega) LB.out.cs).mono ?_; rintro e w15 ⟨a15, rfl, h3, g3, f3, _⟩; have K15 : Hid (Below w4.heap.size w4 w15) := stp1 K14.out.drew f3 L6.out; have c15 := (K15.out.cell (p := ⟨w.heap.size, 35, none⟩) h4.out.qp).trans DQ.out; have q4 : Hid (Rg w15 r1 eb (vec 1 m.cmp ++ (vec 2 (extsB m) ++ []))) := g3; have q5 : Hid (Rd w15 eb a15 (2 * n) (2 * n) (u16s m.cs)) := h3; clear h3 g3 f3)
                  | (go_at_call 29; refine (u16sIn eb b (2 * n) a15 a n (2 * n) c m.cs w15 q5.out (Rd16.move dd fun hn => K15.out.block _ (dl hn))).mono ?_; rintro e w16 ⟨rfl, f4⟩; have K16 : Hid (Below w4.heap.size w4 w16) := stp0 K15.out f4; have c16 := (K16.out.cell (p := ⟨w.heap.size, 35, none⟩) h4.out.qp).trans DQ.out; have G16 : Hid (Rg w16 r1 eb (vec 1 m.cmp ++ (vec 2 (extsB m) ++ []))) := Rg.fr0 q4.out f4; clear f4))
              clear c14 c15 c16 K14 K15 G14 q4 q5 DQ dd dl hlen
              obtain ⟨a, n, c, b, dq, dd, dl⟩ := h4.out.cmp
              have c16 := (K16.out.cell (p := ⟨w.heap.size, 36, none⟩) h4.out.qp).trans dq
              have DQ : Hid _ := dq
              clear dq
              have hlen : Hid ((m.cmp).length = n) := dd.len
              go_wp2_with fail
              go_region_held3 (fun w' => w'.cell? ⟨w.heap.size, 36, none⟩ = some (.slice a n c)) (go_keep)
                (first
                  | (go_at_call 13; refine (rvec r1 eb 1 n (m.cmp) (vec 2 (extsB m) ++ []) w16.drew (Rg.drew G16.out) hlen.out (by omega) LB.out.cmp).mono ?_; rintro e w17 ⟨a17, rfl, h3, g3, f3, _⟩; have K17 : Hid (Below w4.heap.size w4 w17) := stp1 K16.out.drew f3 L6.out; have c17 := (K17.out.cell (p := ⟨w.heap.size, 36, none⟩) h4.out.qp).trans DQ.out; have q4 : Hid (Rg w17 r1 eb (vec 2 (extsB m) ++ [])) := g3; have q5 : Hid (Rd w17 eb a17 n n (m.cmp)) := h3; clear h3 g3 f3)
                  | (go_at_call 16; refine (equal_yes eb b a17 a n n c m.cmp w17 q5.out (Rd.move dd fun hn => K17.out.block _ (dl hn))).mono ?_; rintro e w18 ⟨rfl, f4⟩; have K18 : Hid (Below w4.heap.size w4 w18) := stp0 K17.out f4; have c18 := (K18.out.cell (p := ⟨w.heap.size, 36, none⟩) h4.out.qp).trans DQ.out; have G18 : Hid (Rg w18 r1 eb (vec 2 (extsB m) ++ [])) := Rg.fr0 q4.out f4; clear f4))
              clear c16 c17 c18 K16 K17 G16 q4 q5 DQ dd dl hlen
              go_wp2_with fail
              refine (rvec r1 eb 2 _ (extsB m) [] _ G18.out rfl (by omega) LB.out.exts).mono ?_
              rintro e w19 ⟨xa, rfl, h3, g3, f3, _⟩
              have K19 : Hid (Below w4.heap.size w4 w19) := stp1 K18.out f3 L6.out
              have G19 : Hid (Rg w19 r1 eb []) := g3
              have X19 : Hid (Rd w19 eb xa (extsB m).length (extsB m).length (extsB m)) := h3
              clear h3 g3 f3 K18 G18
              go_wp2_with fail
              refine (rfailed _ _ _ _ G19.out).mono ?_
              rintro e w20 ⟨rfl, rfl⟩
              go_wp2_with fail
              refine (rrest _ _ _ _ G19.out).mono ?_
              rintro e w20 ⟨ta, tc, rfl, rfl⟩
              rw [show (List.length ([] : List Int)) = 0 from rfl]
              go_wp2_with fail
              refine (rnew eb xa _ _ _ _ X19.out).mono ?_
              rintro e w21 ⟨rfl, h3, f3⟩
              have K21 : Hid (Below w4.heap.size w4 w21) := stp0 K19.out f3
              have L7 : Hid (w4.heap.size ≤ w20.heap.size) := K19.out.size
              have G21 : Hid (Rg w21 w20.heap.size eb (extsB m)) := h3
              clear h3 f3 K19 G19 X19 L6
              generalize hr2 : w20.heap.size = r2 at *
              clear hr2
              have c21 := (K21.out.cell (p := ⟨w.heap.size, 37, none⟩) h4.out.qp).trans h4.out.nm
              go_upto_if 96 with fail
              go_cut [] (fun wc => Below w4.heap.size w4 wc ∧ Rg wc r2 eb (E2 m))
              case first =>
                clear c21
                by_cases hnm : m.nm.size = 0
                · have hpos : ¬ (0 : Int) < (m.nm.size : Int) := by omega
                  have G22 : Hid (Rg w21 r2 eb (E2 m)) := by have := G21.out; rw [extsB_split, if_pos hnm, List.nil_append] at this; exact this
                  go_wp2_with fail
                  go_meet
                  case rel => exact ⟨K21.out, G22.out⟩
                · have hpos : (0 : Int) < (m.nm.size : Int) := by omega
                  have HN : Hid (m.nm.size ≠ 0) := hnm
                  clear hnm
                  have F21 : Hid (Rg w21 r2 eb ([0, 0] ++ (vec 2 (sniB m) ++ E2 m))) := by have := G21.out; rw [extsB_split, if_neg HN.out, ext_front, show ((0 : Int) / 256) = 0 from rfl, show ((0 : Int) % 256) = 0 from rfl] at this; exact this
                  clear G21
                  go_wp2_with fail
                  refine (ruint r2 eb 2 [0, 0] _ _ F21.out rfl (by omega)).mono ?_
                  rintro e w22 ⟨rfl, h3, f3⟩
                  rw [show beV [0, 0] = 0 from rfl]
                  have K22 : Hid (Below w4.heap.size w4 w22) := stp1 K21.out f3 L7.out
                  have G22 : Hid (Rg w22 r2 eb (vec 2 (sniB m) ++ E2 m)) := h3
                  clear h3 f3 K21 F21
                  go_wp2_with fail
                  refine (rvec r2 eb 2 _ (sniB m) (E2 m) _ G22.out rfl (by omega) (LB.out.sni HN.out)).mono ?_
                  rintro e w23 ⟨ya, rfl, h3, g3, f3, _⟩
                  have K23 : Hid (Below w4.heap.size w4 w23) := stp1 K22.out f3 L7.out
                  have G23 : Hid (Rg w23 r2 eb (E2 m)) := g3
                  have Y23 : Hid (Rd w23 eb ya (sniB m).length (sniB m).length (sniB m)) := h3
                  clear h3 g3 f3 K22 G22
                  go_wp2_with fail
                  refine (vectorAlone eb 2 ([0] ++ vec 2 (nmB m.nm)).length _ ya _ ([0] ++ vec 2 (nmB m.nm)) _ Y23.out rfl (by omega) (LB.out.sni1 HN.out)).mono ?_
                  rintro e w24 ⟨za, rfl, h3, f3⟩
                  have K24 : Hid (Below w4.heap.size w4 w24) := stp0 K23.out f3
                  have G24 : Hid (Rg w24 r2 eb (E2 m)) := Rg.fr0 G23.out f3
                  have Y24 : Hid (Rd w24 eb za ([0] ++ vec 2 (nmB m.nm)).length ([0] ++ vec 2 (nmB m.nm)).length ([0] ++ vec 2 (nmB m.nm))) := h3
                  clear h3 f3 K23 G23 Y23
                  have cd := (K24.out.cell (p := ⟨w.heap.size, 37, none⟩) h4.out.qp).trans h4.out.nm
                  go_wp2_with fail
                  refine (serverName eb _ za _ m.nm _ Y24.out LB.out.nm).mono ?_
                  rintro e w25 ⟨rfl, f3⟩
                  have K25 : Hid (Below w4.heap.size w4 w25) := stp0 K24.out f3
                  have G25 : Hid (Rg w25 r2 eb (E2 m)) := Rg.fr0 G24.out f3
                  clear f3 K24 G24 Y24 cd
                  go_wp2_with fail
                  go_meet
                  case rel => exact ⟨K25.out, G25.out⟩
              case rest =>
                obtain ⟨k26, g26⟩ := hcut
                have K26 : Hid (Below w4.heap.size w4 wc) := k26
                have G26 : Hid (Rg wc r2 eb (E2 m)) := g26
                obtain ⟨w26, rfl⟩ : ∃ x : World, x = wc := ⟨_, rfl⟩
                clear k26 g26 c21 K21 G21
                have F26 : Hid (Rg w26 r2 eb ([0, 43] ++ (vec 2 (vec 1 (u16s m.sv)) ++ E3 m))) := by have := G26.out; rw [E2_front] at this; exact this
                clear G26
                go_wp2_with fail
                refine (ruint r2 eb 2 [0, 43] _ _ F26.out rfl (by omega)).mono ?_
                rintro e w27 ⟨rfl, h3, f3⟩
                rw [show beV [0, 43] = 43 from rfl]
                have K27 : Hid (Below w4.heap.size w4 w27) := stp1 K26.out f3 L7.out
                have G27 : Hid (Rg w27 r2 eb (vec 2 (vec 1 (u16s m.sv)) ++ E3 m)) := h3
                clear h3 f3 K26 F26
                go_wp2_with fail
                refine (rvec r2 eb 2 _ (vec 1 (u16s m.sv)) (E3 m) _ G27.out rfl (by omega) LB.out.sv).mono ?_
                rintro e w28 ⟨ya, rfl, h3, g3, f3, _⟩
                have K28 : Hid (Below w4.heap.size w4 w28) := stp1 K27.out f3 L7.out
                have G28 : Hid (Rg w28 r2 eb (E3 m)) := g3
                have Y28 : Hid (Rd w28 eb ya (vec 1 (u16s m.sv)).length (vec 1 (u16s m.sv)).length (vec 1 (u16s m.sv))) := h3
                clear h3 g3 f3 K27 G27
                go_wp2_with fail
                refine (vectorAlone eb 1 (u16s m.sv).length _ ya _ (u16s m.sv) _ Y28.out rfl (by omega) LB.out.sv1).mono ?_
                rintro e w29 ⟨za, rfl, h3, f3⟩
                have K29 : Hid (Below w4.heap.size w4 w29) := stp0 K28.out f3
                have G29 : Hid (Rg w29 r2 eb (E3 m)) := Rg.fr0 G28.out f3
                have Y29 : Hid (Rd w29 eb za (u16s m.sv).length (u16s m.sv).length (u16s m.sv)) := h3
                clear h3 f3 K28 G28 Y28
                obtain ⟨a, n, c, b, dq, dd, dl⟩ := h4.out.sv
                have cd := (K29.out.cell (p := ⟨w.heap.size, 38, none⟩) h4.out.qp).trans dq
                clear dq
                have DD : Hid _ := dd
                have DL : Hid _ := dl
                clear dd dl
                go_wp2_with fail
                refine (u16sIn eb b _ za a n _ c m.sv _ Y29.out (Rd16.move DD.out fun hn => K29.out.block _ (DL.out hn))).mono ?_
                rintro e w30 ⟨rfl, f3⟩
                have K30 : Hid (Below w4.heap.size w4 w30) := stp0 K29.out f3
                have G30 : Hid (Rg w30 r2 eb (E3 m)) := Rg.fr0 G29.out f3
                clear f3 K29 G29 Y29 cd
                have F30 : Hid (Rg w30 r2 eb ([0, 10] ++ (vec 2 (vec 2 (u16s m.sg)) ++ E4 m))) := by have := G30.out; rw [E3_front] at this; exact this
                clear G30
                go_wp2_with fail
                refine (ruint r2 eb 2 [0, 10] _ _ F30.out rfl (by omega)).mono ?_
                rintro e w31 ⟨rfl, h3, f3⟩
                rw [show beV [0, 10] = 10 from rfl]
                have K31 : Hid (Below w4.heap.size w4 w31) := stp1 K30.out f3 L7.out
                have G31 : Hid (Rg w31 r2 eb (vec 2 (vec 2 (u16s m.sg)) ++ E4 m)) := h3
                clear h3 f3 K30 F30
                go_wp2_with fail
                refine (rvec r2 eb 2 _ (vec 2 (u16s m.sg)) (E4 m) _ G31.out rfl (by omega) LB.out.sg).mono ?_
                rintro e w32 ⟨ya, rfl, h3, g3, f3, _⟩
                have K32 : Hid (Below w4.heap.size w4 w32) := stp1 K31.out f3 L7.out
                have G32 : Hid (Rg w32 r2 eb (E4 m)) := g3
                have Y32 : Hid (Rd w32 eb ya (vec 2 (u16s m.sg)).length (vec 2 (u16s m.sg)).length (vec 2 (u16s m.sg))) := h3
                clear h3 g3 f3 K31 G31
                go_wp2_with fail
                refine (vectorAlone eb 2 (u16s m.sg).length _ ya _ (u16s m.sg) _ Y32.out rfl (by omega) LB.out.sg1).mono ?_
                rintro e w33 ⟨za, rfl, h3, f3⟩
                have K33 : Hid (Below w4.heap.size w4 w33) := stp0 K32.out f3
                have G33 : Hid (Rg w33 r2 eb (E4 m)) := Rg.fr0 G32.out f3
                have Y33 : Hid (Rd w33 eb za (u16s m.sg).length (u16s m.sg).length (u16s m.sg)) := h3
                clear h3 f3 K32 G32 Y32
                obtain ⟨a, n, c, b, dq, dd, dl⟩ := h4.out.sg
                have cd := (K33.out.cell (p := ⟨w.heap.size, 39, none⟩) h4.out.qp).trans dq
                clear dq
                have DD : Hid _ := dd
                have DL : Hid _ := dl
                clear dd dl
                go_wp2_with fail
                refine (u16sIn eb b _ za a n _ c m.sg _ Y33.out (Rd16.move DD.out fun hn => K33.out.block _ (DL.out hn))).mono ?_
                rintro e w34 ⟨rfl, f3⟩
                have K34 : Hid (Below w4.heap.size w4 w34) := stp0 K33.out f3
                have G34 : Hid (Rg w34 r2 eb (E4 m)) := Rg.fr0 G33.out f3
                clear f3 K33 G33 Y33 cd
                have F34 : Hid (Rg w34 r2 eb ([0, 13] ++ (vec 2 (vec 2 (u16s m.ss)) ++ E5 m))) := by have := G34.out; rw [E4_front] at this; exact this
                clear G34
                go_wp2_with fail
                refine (ruint r2 eb 2 [0, 13] _ _ F34.out rfl (by omega)).mono ?_
                rintro e w35 ⟨rfl, h3, f3⟩
                rw [show beV [0, 13] = 13 from rfl]
                have K35 : Hid (Below w4.heap.size w4 w35) := stp1 K34.out f3 L7.out
                have G35 : Hid (Rg w35 r2 eb (vec 2 (vec 2 (u16s m.ss)) ++ E5 m)) := h3
                clear h3 f3 K34 F34
                go_wp2_with fail
                refine (rvec r2 eb 2 _ (vec 2 (u16s m.ss)) (E5 m) _ G35.out rfl (by omega) LB.out.ss).mono ?_
                rintro e w36 ⟨ya, rfl, h3, g3, f3, _⟩
                have K36 : Hid (Below w4.heap.size w4 w36) := stp1 K35.out f3 L7.out
                have G36 : Hid (Rg w36 r2 eb (E5 m)) := g3
                have Y36 : Hid (Rd w36 eb ya (vec 2 (u16s m.ss)).length (vec 2 (u16s m.ss)).length (vec 2 (u16s m.ss))) := h3
                clear h3 g3 f3 K35 G35
                go_wp2_with fail
                refine (vectorAlone eb 2 (u16s m.ss).length _ ya _ (u16s m.ss) _ Y36.out rfl (by omega) LB.out.ss1).mono ?_
                rintro e w37 ⟨za, rfl, h3, f3⟩
                have K37 : Hid (Below w4.heap.size w4 w37) := stp0 K36.out f3
                have G37 : Hid (Rg w37 r2 eb (E5 m)) := Rg.fr0 G36.out f3
                have Y37 : Hid (Rd w37 eb za (u16s m.ss).length (u16s m.ss).length (u16s m.ss)) := h3
                clear h3 f3 K36 G36 Y36
                obtain ⟨a, n, c, b, dq, dd, dl⟩ := h4.out.ss
                have cd := (K37.out.cell (p := ⟨w.heap.size, 40, none⟩) h4.out.qp).trans dq
                clear dq
                have DD : Hid _ := dd
                have DL : Hid _ := dl
                clear dd dl
                go_wp2_with fail
                refine (u16sIn eb b _ za a n _ c m.ss _ Y37.out (Rd16.move DD.out fun hn => K37.out.block _ (DL.out hn))).mono ?_
                rintro e w38 ⟨rfl, f3⟩
                have K38 : Hid (Below w4.heap.size w4 w38) := stp0 K37.out f3
                have G38 : Hid (Rg w38 r2 eb (E5 m)) := Rg.fr0 G37.out f3
                clear f3 K37 G37 Y37 cd
                have F38 : Hid (Rg w38 r2 eb ([0, 51] ++ (vec 2 (vec 2 (ksB m.ks)) ++ E6 m))) := by have := G38.out; rw [E5_front] at this; exact this
                clear G38
                go_wp2_with fail
                refine (ruint r2 eb 2 [0, 51] _ _ F38.out rfl (by omega)).mono ?_
                rintro e w39 ⟨rfl, h3, f3⟩
                rw [show beV [0, 51] = 51 from rfl]
                have K39 : Hid (Below w4.heap.size w4 w39) := stp1 K38.out f3 L7.out
                have G39 : Hid (Rg w39 r2 eb (vec 2 (vec 2 (ksB m.ks)) ++ E6 m)) := h3
                clear h3 f3 K38 F38
                go_wp2_with fail
                refine (rvec r2 eb 2 _ (vec 2 (ksB m.ks)) (E6 m) _ G39.out rfl (by omega) LB.out.ks).mono ?_
                rintro e w40 ⟨ya, rfl, h3, g3, f3, _⟩
                have K40 : Hid (Below w4.heap.size w4 w40) := stp1 K39.out f3 L7.out
                have G40 : Hid (Rg w40 r2 eb (E6 m)) := g3
                have Y40 : Hid (Rd w40 eb ya (vec 2 (ksB m.ks)).length (vec 2 (ksB m.ks)).length (vec 2 (ksB m.ks))) := h3
                clear h3 g3 f3 K39 G39
                go_wp2_with fail
                refine (vectorAlone eb 2 (ksB m.ks).length _ ya _ (ksB m.ks) _ Y40.out rfl (by omega) LB.out.ks1).mono ?_
                rintro e w41 ⟨za, rfl, h3, f3⟩
                have K41 : Hid (Below w4.heap.size w4 w41) := stp0 K40.out f3
                have G41 : Hid (Rg w41 r2 eb (E6 m)) := Rg.fr0 G40.out f3
                have Y41 : Hid (Rd w41 eb za (ksB m.ks).length (ksB m.ks).length (ksB m.ks)) := h3
                clear h3 f3 K40 G40 Y40
                obtain ⟨a, n, c, b, dq, dd⟩ := h4.out.ks
                have cd := (K41.out.cell (p := ⟨w.heap.size, 41, none⟩) h4.out.qp).trans dq
                have DD : Hid _ := dd
                clear dq dd
                go_wp2_with fail
                refine (keyShares w4.heap.size eb b _ za a n _ c m.ks _ Y41.out (RdKs.below DD.out K41.out) K41.out.size LB.out.ksk).mono ?_
                rintro e w42 ⟨rfl, f3⟩
                have K42 : Hid (Below w4.heap.size w4 w42) := stp0 K41.out f3
                have G42 : Hid (Rg w42 r2 eb (E6 m)) := Rg.fr0 G41.out f3
                clear f3 K41 G41 Y41 cd
                obtain ⟨a, n, c, b, dq, dd, dl⟩ := h4.out.ck
                have c42 := (K42.out.cell (p := ⟨w.heap.size, 42, none⟩) h4.out.qp).trans dq
                have hck := dd.len
                clear dq dd dl
                go_upto_if 190 with fail
                go_cut [] (fun wc => Below w4.heap.size w4 wc ∧ Rg wc r2 eb (E7 m))
                case first =>
                  clear c42
                  by_cases hnm : m.ck.length = 0
                  · have hpos : ¬ (0 : Int) < (n : Int) := by omega
                    have G0 : Hid (Rg w42 r2 eb (E7 m)) := by have := G42.out; rw [E6, if_pos hnm, List.nil_append] at this; exact this
                    go_wp2_with fail
                    go_meet
                    case rel => exact ⟨K42.out, G0.out⟩
                  · have hpos : (0 : Int) < (n : Int) := by omega
                    have HN : Hid (m.ck.length ≠ 0) := hnm
                    clear hnm hck
                    obtain ⟨a, n2, c, b, dq, dd, dl⟩ := h4.out.ck
                    have hlen : Hid (m.ck.length = n2) := dd.len
                    have DQ : Hid _ := dq
                    clear dq
                    have DD : Hid _ := dd
                    have DL : Hid _ := dl
                    clear dd dl
                    have F42 : Hid (Rg w42 r2 eb ([0, 44] ++ (vec 2 (vec 2 m.ck) ++ E7 m))) := by have := G42.out; rw [E6_front HN.out] at this; exact this
                    clear G42
                    go_wp2_with fail
                    refine (ruint r2 eb 2 [0, 44] _ _ F42.out rfl (by omega)).mono ?_
                    rintro e w43 ⟨rfl, h3, f3⟩
                    rw [show beV [0, 44] = 44 from rfl]
                    have K43 : Hid (Below w4.heap.size w4 w43) := stp1 K42.out f3 L7.out
                    have G43 : Hid (Rg w43 r2 eb (vec 2 (vec 2 m.ck) ++ E7 m)) := h3
                    clear h3 f3 K42 F42
                    go_wp2_with fail
                    refine (rvec r2 eb 2 _ (vec 2 m.ck) (E7 m) _ G43.out rfl (by omega) (LB.out.ck HN.out)).mono ?_
                    rintro e w44 ⟨ya, rfl, h3, g3, f3, _⟩
                    have K44 : Hid (Below w4.heap.size w4 w44) := stp1 K43.out f3 L7.out
                    have G44 : Hid (Rg w44 r2 eb (E7 m)) := g3
                    have Y44 : Hid (Rd w44 eb ya (vec 2 m.ck).length (vec 2 m.ck).length (vec 2 m.ck)) := h3
                    clear h3 g3 f3 K43 G43
                    go_wp2_with fail
                    refine (vectorAlone eb 2 n2 _ ya _ (m.ck) _ Y44.out hlen.out (by omega) LB.out.ck1).mono ?_
                    rintro e w45 ⟨za, rfl, h3, f3⟩
                    have K45 : Hid (Below w4.heap.size w4 w45) := stp0 K44.out f3
                    have G45 : Hid (Rg w45 r2 eb (E7 m)) := Rg.fr0 G44.out f3
                    have Y45 : Hid (Rd w45 eb za n2 n2 (m.ck)) := h3
                    clear h3 f3 K44 G44 Y44
                    have cd := (K45.out.cell (p := ⟨w.heap.size, 42, none⟩) h4.out.qp).trans DQ.out
                    go_wp2_with fail
                    refine (equal_yes eb b za a n2 n2 c m.ck _ Y45.out (Rd.move DD.out fun hn => K45.out.block _ (DL.out hn))).mono ?_
                    rintro e w46 ⟨rfl, f3⟩
                    have K46 : Hid (Below w4.heap.size w4 w46) := stp0 K45.out f3
                    have G46 : Hid (Rg w46 r2 eb (E7 m)) := Rg.fr0 G45.out f3
                    clear f3 K45 G45 Y45 cd
                    go_wp2_with fail
                    go_meet
                    case rel => exact ⟨K46.out, G46.out⟩
                case rest =>
                  obtain ⟨k50, g50⟩ := hcut
                  have K50 : Hid (Below w4.heap.size w4 wc) := k50
                  have G50 : Hid (Rg wc r2 eb (E7 m)) := g50
                  obtain ⟨w50, rfl⟩ : ∃ x : World, x = wc := ⟨_, rfl⟩
                  clear k50 g50 c42 K42 G42 hck
                  have c50 := (K50.out.cell (p := ⟨w.heap.size, 44, none⟩) h4.out.qp).trans h4.out.has
                  go_upto_if 210 with fail
                  go_cut [] (fun wc => Below w4.heap.size w4 wc ∧ Rg wc r2 eb ([]))
                  case first =>
                    clear c50
                    cases hb : m.has with
                    | false =>
                      have G0 : Hid (Rg w50 r2 eb []) := by have := G50.out; rw [E7, hb] at this; exact this
                      go_wp2_with fail
                      go_meet
                      case rel => exact ⟨K50.out, G0.out⟩
                    | true =>
                      have HN : Hid (m.has = true) := hb
                      clear hb
                      obtain ⟨a, n2, c, b, dq, dd, dl⟩ := h4.out.cid
                      have hlen : Hid (m.cid.length = n2) := dd.len
                      have DQ : Hid _ := dq
                      clear dq
                      have DD : Hid _ := dd
                      have DL : Hid _ := dl
                      clear dd dl
                      have F50 : Hid (Rg w50 r2 eb ([0, 54] ++ (vec 2 (vec 1 m.cid) ++ ([] : List Int)))) := by have := G50.out; rw [E7_front HN.out] at this; exact this
                      clear G50
                      go_wp2_with fail
                      refine (ruint r2 eb 2 [0, 54] _ _ F50.out rfl (by omega)).mono ?_
                      rintro e w51 ⟨rfl, h3, f3⟩
                      rw [show beV [0, 54] = 54 from rfl]
                      have K51 : Hid (Below w4.heap.size w4 w51) := stp1 K50.out f3 L7.out
                      have G51 : Hid (Rg w51 r2 eb (vec 2 (vec 1 m.cid) ++ ([] : List Int))) := h3
                      clear h3 f3 K50 F50
                      go_wp2_with fail
                      refine (rvec r2 eb 2 _ (vec 1 m.cid) (([] : List Int)) _ G51.out rfl (by omega) (LB.out.cid HN.out)).mono ?_
                      rintro e w52 ⟨ya, rfl, h3, g3, f3, _⟩
                      have K52 : Hid (Below w4.heap.size w4 w52) := stp1 K51.out f3 L7.out
                      have G52 : Hid (Rg w52 r2 eb (([] : List Int))) := g3
                      have Y52 : Hid (Rd w52 eb ya (vec 1 m.cid).length (vec 1 m.cid).length (vec 1 m.cid)) := h3
                      clear h3 g3 f3 K51 G51
                      go_wp2_with fail
                      refine (vectorAlone eb 1 n2 _ ya _ (m.cid) _ Y52.out hlen.out (by omega) (LB.out.cid1 HN.out)).mono ?_
                      rintro e w53 ⟨za, rfl, h3, f3⟩
                      have K53 : Hid (Below w4.heap.size w4 w53) := stp0 K52.out f3
                      have G53 : Hid (Rg w53 r2 eb (([] : List Int))) := Rg.fr0 G52.out f3
                      have Y53 : Hid (Rd w53 eb za n2 n2 (m.cid)) := h3
                      clear h3 f3 K52 G52 Y52
                      have cd := (K53.out.cell (p := ⟨w.heap.size, 43, none⟩) h4.out.qp).trans DQ.out
                      go_wp2_with fail
                      refine (equal_yes eb b za a n2 n2 c m.cid _ Y53.out (Rd.move DD.out fun hn => K53.out.block _ (DL.out hn))).mono ?_
                      rintro e w54 ⟨rfl, f3⟩
                      have K54 : Hid (Below w4.heap.size w4 w54) := stp0 K53.out f3
                      have G54 : Hid (Rg w54 r2 eb (([] : List Int))) := Rg.fr0 G53.out f3
                      clear f3 K53 G53 Y53 cd
                      go_wp2_with fail
                      go_meet
                      case rel => exact ⟨K54.out, G54.out⟩
                  case rest =>
                    obtain ⟨k60, g60⟩ := hcut
                    have K60 : Hid (Below w4.heap.size w4 wc) := k60
                    have G60 : Hid (Rg wc r2 eb []) := g60
                    clear k60 g60 c50 K50 G50
                    go_wp2_with fail
                    refine (rfailed _ _ _ _ G60.out).mono ?_
                    rintro e w61 ⟨rfl, rfl⟩
                    go_wp2_with fail
                    refine (rrest _ _ _ _ G60.out).mono ?_
                    rintro e w62 ⟨ta, tc, rfl, rfl⟩
                    rw [show (List.length ([] : List Int)) = 0 from rfl]
                    go_wp2_with fail
                    go_ret
                    exact ⟨rfl, B4.out.trans (K60.out.mono B4.out.size)⟩
end Go.Proofs.Qxb6615713a.fnClientHelloMarshalParsesBack
