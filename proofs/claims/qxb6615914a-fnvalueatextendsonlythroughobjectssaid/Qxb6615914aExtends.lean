/- THE WALK OF FnValueAtExtendsOnlyThroughObjects. Laid by tools/genextends.py. -/
import Derived.Test.Qxb6615914aExact
import Derived.Test.Qxb6615914aExt
import Derived.Deep.CutRange
namespace Go.Proofs.Qxb6615914a
open Go.RowKit
set_option linter.unusedSimpArgs false
set_option linter.unusedVariables false

set_option maxRecDepth 20000 in
set_option maxHeartbeats 2000000 in
theorem extends_walk (w : World) (b0 b1 b3 b4 b5 : Nat) (a0 a1 a3 a4 a5 : Option Addr) (n0 c0 n1 c1 n3 c3 n4 c4 n5 c5 : Nat) (s0 s1 s3 s4 s5 : List ByteArray) (sn x : ByteArray)
    (h0 : RdS w b0 a0 n0 c0 s0) (h1 : RdS w b1 a1 n1 c1 s1) (h3 : RdS w b3 a3 n3 c3 s3) (h4 : RdS w b4 a4 n4 c4 s4) (h5 : RdS w b5 a5 n5 c5 s5) (hsn : sn.size ≤ maxLen) (hx : x.size ≤ maxLen) :
    Calls Try.prog 4 #[.slice a0 n0 c0, .slice a1 n1 c1, .string sn, .slice a3 n3 c3, .slice a4 n4 c4, .slice a5 n5 c5, .string x] w (MPost w) := by
  have H0 : Hid (RdS w b0 a0 n0 c0 s0) := h0
  have H1 : Hid (RdS w b1 a1 n1 c1 s1) := h1
  have H3 : Hid (RdS w b3 a3 n3 c3 s3) := h3
  have H4 : Hid (RdS w b4 a4 n4 c4 s4) := h4
  have H5 : Hid (RdS w b5 a5 n5 c5 s5) := h5
  have HK : Hid (sn.size ≤ maxLen) := hsn
  have HX : Hid (x.size ≤ maxLen) := hx
  clear h0 h1 h3 h4 h5 hsn hx
  go_enter Try.func4, Try.ntmps4
  go_upto_if 72 with (first
    | (go_at_call 9; refine (zz9_any _ b0 b1 b3 b4 b5 _ _ _ _ _ _ _ _ _ _ _ _ _ _ _ s0 s1 s3 s4 s5 sn x H0.out H1.out H3.out H4.out H5.out).mono ?_; rintro e w2 ⟨⟨t, rfl⟩, rfl⟩))
  all_goals (try (go_ret; exact MPost.mk _))
  have hn0 : n0 ≤ 4096 := by omega
  have hn1 : n1 ≤ 4096 := by omega
  have hn3 : n3 ≤ 4096 := by omega
  have hn4 : n4 ≤ 4096 := by omega
  have hn5 : n5 ≤ 65536 := by omega
  go_cut [0, 15] from 73 to 79 (fun v z wc => ∃ (b : Nat) (a : Option Addr) (c : Nat), v = .slice a n0 c ∧ RdS wc b a n0 c s0 ∧ Fr [] w wc)
  case first =>
    cases a0 with
    | none =>
      go_wp2
      go_meet
      case rel => exact ⟨_, _, _, rfl, H0.out, Fr.refl _ _⟩
    | some x =>
      obtain ⟨g, w1, w2, hr1, hr2, hr3, hr4⟩ := clone_runs _ _ x n0 _ s0 H0.out (by omega)
      have HR3 : Hid _ := hr3
      have HR4 : Hid _ := hr4
      clear hr3 hr4
      go_wp2
      go_meet
      case rel => exact ⟨_, _, _, rfl, HR3.out, HR4.out⟩
  case rest =>
    obtain ⟨wk0, rfl⟩ : ∃ x : World, x = wc := ⟨_, rfl⟩
    obtain ⟨d0, e0, f0, rfl, hR, hF⟩ := hcut
    replace H0 : Hid (RdS wk0 d0 e0 n0 f0 s0) := hR
    replace H1 : Hid (RdS wk0 b1 a1 n1 c1 s1) := H1.out.fr hF (by simp)
    replace H3 : Hid (RdS wk0 b3 a3 n3 c3 s3) := H3.out.fr hF (by simp)
    replace H4 : Hid (RdS wk0 b4 a4 n4 c4 s4) := H4.out.fr hF (by simp)
    replace H5 : Hid (RdS wk0 b5 a5 n5 c5 s5) := H5.out.fr hF (by simp)
    have HF0 : Hid (Fr [] w wk0) := hF
    clear hR hF
    go_upto_if 81 with fail
    go_cut [1, 16] from 82 to 88 (fun v z wc => ∃ (b : Nat) (a : Option Addr) (c : Nat), v = .slice a n1 c ∧ RdS wc b a n1 c s1 ∧ Fr [] wk0 wc)
    case first =>
      cases a1 with
      | none =>
        go_wp2
        go_meet
        case rel => exact ⟨_, _, _, rfl, H1.out, Fr.refl _ _⟩
      | some x =>
        obtain ⟨g, w1, w2, hr1, hr2, hr3, hr4⟩ := clone_runs _ _ x n1 _ s1 H1.out (by omega)
        have HR3 : Hid _ := hr3
        have HR4 : Hid _ := hr4
        clear hr3 hr4
        go_wp2
        go_meet
        case rel => exact ⟨_, _, _, rfl, HR3.out, HR4.out⟩
    case rest =>
      obtain ⟨wk1, rfl⟩ : ∃ x : World, x = wc := ⟨_, rfl⟩
      obtain ⟨d1, e1, f1, rfl, hR, hF⟩ := hcut
      replace H1 : Hid (RdS wk1 d1 e1 n1 f1 s1) := hR
      replace H0 : Hid (RdS wk1 d0 e0 n0 f0 s0) := H0.out.fr hF (by simp)
      replace H3 : Hid (RdS wk1 b3 a3 n3 c3 s3) := H3.out.fr hF (by simp)
      replace H4 : Hid (RdS wk1 b4 a4 n4 c4 s4) := H4.out.fr hF (by simp)
      replace H5 : Hid (RdS wk1 b5 a5 n5 c5 s5) := H5.out.fr hF (by simp)
      have HF1 : Hid (Fr [] w wk1) := HF0.out.trans hF
      clear hR hF HF0
      go_upto_if 90 with fail
      go_cut [3, 17] from 91 to 97 (fun v z wc => ∃ (b : Nat) (a : Option Addr) (c : Nat), v = .slice a n3 c ∧ RdS wc b a n3 c s3 ∧ Fr [] wk1 wc)
      case first =>
        cases a3 with
        | none =>
          go_wp2
          go_meet
          case rel => exact ⟨_, _, _, rfl, H3.out, Fr.refl _ _⟩
        | some x =>
          obtain ⟨g, w1, w2, hr1, hr2, hr3, hr4⟩ := clone_runs _ _ x n3 _ s3 H3.out (by omega)
          have HR3 : Hid _ := hr3
          have HR4 : Hid _ := hr4
          clear hr3 hr4
          go_wp2
          go_meet
          case rel => exact ⟨_, _, _, rfl, HR3.out, HR4.out⟩
      case rest =>
        obtain ⟨wk3, rfl⟩ : ∃ x : World, x = wc := ⟨_, rfl⟩
        obtain ⟨d3, e3, f3, rfl, hR, hF⟩ := hcut
        replace H3 : Hid (RdS wk3 d3 e3 n3 f3 s3) := hR
        replace H0 : Hid (RdS wk3 d0 e0 n0 f0 s0) := H0.out.fr hF (by simp)
        replace H1 : Hid (RdS wk3 d1 e1 n1 f1 s1) := H1.out.fr hF (by simp)
        replace H4 : Hid (RdS wk3 b4 a4 n4 c4 s4) := H4.out.fr hF (by simp)
        replace H5 : Hid (RdS wk3 b5 a5 n5 c5 s5) := H5.out.fr hF (by simp)
        have HF3 : Hid (Fr [] w wk3) := HF1.out.trans hF
        clear hR hF HF1
        go_upto_if 99 with fail
        go_cut [4, 18] from 100 to 106 (fun v z wc => ∃ (b : Nat) (a : Option Addr) (c : Nat), v = .slice a n4 c ∧ RdS wc b a n4 c s4 ∧ Fr [] wk3 wc)
        case first =>
          cases a4 with
          | none =>
            go_wp2
            go_meet
            case rel => exact ⟨_, _, _, rfl, H4.out, Fr.refl _ _⟩
          | some x =>
            obtain ⟨g, w1, w2, hr1, hr2, hr3, hr4⟩ := clone_runs _ _ x n4 _ s4 H4.out (by omega)
            have HR3 : Hid _ := hr3
            have HR4 : Hid _ := hr4
            clear hr3 hr4
            go_wp2
            go_meet
            case rel => exact ⟨_, _, _, rfl, HR3.out, HR4.out⟩
        case rest =>
          obtain ⟨wk4, rfl⟩ : ∃ x : World, x = wc := ⟨_, rfl⟩
          obtain ⟨d4, e4, f4, rfl, hR, hF⟩ := hcut
          replace H4 : Hid (RdS wk4 d4 e4 n4 f4 s4) := hR
          replace H0 : Hid (RdS wk4 d0 e0 n0 f0 s0) := H0.out.fr hF (by simp)
          replace H1 : Hid (RdS wk4 d1 e1 n1 f1 s1) := H1.out.fr hF (by simp)
          replace H3 : Hid (RdS wk4 d3 e3 n3 f3 s3) := H3.out.fr hF (by simp)
          replace H5 : Hid (RdS wk4 b5 a5 n5 c5 s5) := H5.out.fr hF (by simp)
          have HF4 : Hid (Fr [] w wk4) := HF3.out.trans hF
          clear hR hF HF3
          go_upto_if 108 with fail
          go_cut [5, 19] from 109 to 115 (fun v z wc => ∃ (b : Nat) (a : Option Addr) (c : Nat), v = .slice a n5 c ∧ RdS wc b a n5 c s5 ∧ Fr [] wk4 wc)
          case first =>
            cases a5 with
            | none =>
              go_wp2
              go_meet
              case rel => exact ⟨_, _, _, rfl, H5.out, Fr.refl _ _⟩
            | some x =>
              obtain ⟨g, w1, w2, hr1, hr2, hr3, hr4⟩ := clone_runs _ _ x n5 _ s5 H5.out (by omega)
              have HR3 : Hid _ := hr3
              have HR4 : Hid _ := hr4
              clear hr3 hr4
              go_wp2
              go_meet
              case rel => exact ⟨_, _, _, rfl, HR3.out, HR4.out⟩
          case rest =>
            obtain ⟨wk5, rfl⟩ : ∃ x : World, x = wc := ⟨_, rfl⟩
            obtain ⟨d5, e5, f5, rfl, hR, hF⟩ := hcut
            replace H5 : Hid (RdS wk5 d5 e5 n5 f5 s5) := hR
            replace H0 : Hid (RdS wk5 d0 e0 n0 f0 s0) := H0.out.fr hF (by simp)
            replace H1 : Hid (RdS wk5 d1 e1 n1 f1 s1) := H1.out.fr hF (by simp)
            replace H3 : Hid (RdS wk5 d3 e3 n3 f3 s3) := H3.out.fr hF (by simp)
            replace H4 : Hid (RdS wk5 d4 e4 n4 f4 s4) := H4.out.fr hF (by simp)
            have HF5 : Hid (Fr [] w wk5) := HF4.out.trans hF
            clear hR hF HF4
            go_upto_region 34 with (first
              | (go_at_call 6; refine (tree_any _ d0 d1 d3 d4 d5 _ _ _ _ _ _ _ _ _ _ _ _ _ _ _ s0 s1 s3 s4 s5 sn H0.out H1.out H3.out H4.out H5.out).mono ?_; rintro e w2 ⟨⟨t6, rfl⟩, rfl⟩))
            all_goals (try (go_ret; exact ⟨rfl, HF5.out⟩))
            obtain rfl : n0 = n1 := by omega
            obtain rfl : n3 = n4 := by
              have : (n3 : Int) = n4 := by simpa using ‹((n3 : Int) != (n4 : Int)) = false›
              omega
            obtain ⟨g, w1, w2, hm1, hm2, hcx, hfz, hR6, hF6⟩ := ext_runs _ d5 _ n5 _ s5 x H5.out HX.out hn5
            have HR6 : Hid (RdS (w2.setCell ⟨g, n5, none⟩ (.string x)) g (some ⟨g, 0, none⟩) (n5 + 1) (n5 + 1) (s5 ++ [x])) := hR6
            have HF6 : Hid (Fr [] wk5 (w2.setCell ⟨g, n5, none⟩ (.string x))) := hF6
            clear hR6 hF6
            obtain ⟨r1, hr1⟩ : ∃ r, walkTo (look (s0.zip s1)) (look (s3.zip s4)) sn Pl.top s5 = r := ⟨_, rfl⟩
            obtain ⟨r2, hr2⟩ : ∃ r, walkTo (look (s0.zip s1)) (look (s3.zip s4)) sn Pl.top (s5 ++ [x]) = r := ⟨_, rfl⟩
            have HC : Hid _ := ext_cases hr1 hr2
            have HR1 : Hid (walkTo (look (s0.zip s1)) (look (s3.zip s4)) sn Pl.top s5 = r1) := hr1
            have HR2 : Hid (walkTo (look (s0.zip s1)) (look (s3.zip s4)) sn Pl.top (s5 ++ [x]) = r2) := hr2
            clear hr1 hr2
            obtain ⟨k1, t1, m1, o1, hA1⟩ : ∃ k t m o, ansOf (topN s0 sn) (dist s3) r1 = ⟨k, t, m, o⟩ := ⟨_, _, _, _, rfl⟩
            obtain ⟨k2, t2, m2, o2, hA2⟩ : ∃ k t m o, ansOf (topN s0 sn) (dist s3) r2 = ⟨k, t, m, o⟩ := ⟨_, _, _, _, rfl⟩
            have HA1 : Hid _ := hA1
            have HA2 : Hid _ := hA2
            clear hA1 hA2
            go_wp2_with fail
            refine (tree_ans _ d0 d1 d3 d4 d5 _ _ _ _ _ n0 _ _ n3 _ _ n5 _ s0 s1 s3 s4 s5 sn (H0.out.fr HF6.out (by simp)) (H1.out.fr HF6.out (by simp)) (H3.out.fr HF6.out (by simp)) (H4.out.fr HF6.out (by simp)) (H5.out.fr HF6.out (by simp)) HK.out hn0 hn3 r1 HR1.out).mono ?_
            rw [HA1.out]
            rintro e w7 ⟨rfl, hf7⟩
            replace H0 : Hid _ := (H0.out.fr HF6.out (by simp)).fr hf7 (by simp)
            replace H1 : Hid _ := (H1.out.fr HF6.out (by simp)).fr hf7 (by simp)
            replace H3 : Hid _ := (H3.out.fr HF6.out (by simp)).fr hf7 (by simp)
            replace H4 : Hid _ := (H4.out.fr HF6.out (by simp)).fr hf7 (by simp)
            replace H5 : Hid _ := (H5.out.fr HF6.out (by simp)).fr hf7 (by simp)
            replace HR6 : Hid _ := HR6.out.fr hf7 (by simp)
            replace HF6 : Hid (Fr [] w w7) := (HF5.out.trans HF6.out).trans hf7
            clear hf7 HF5
            go_wp2_with fail
            refine (tree_ans _ d0 d1 d3 d4 g _ _ _ _ _ n0 _ _ n3 _ _ (n5 + 1) _ s0 s1 s3 s4 (s5 ++ [x]) sn H0.out H1.out H3.out H4.out HR6.out HK.out hn0 hn3 r2 HR2.out).mono ?_
            rw [HA2.out]
            rintro e w8 ⟨rfl, hf8⟩
            replace H5 : Hid _ := H5.out.fr hf8 (by simp)
            have HF8 : Hid (Fr [] w w8) := HF6.out.trans hf8
            have hc5 := H5.out.cap
            have hm5 := H5.out.max
            unfold maxLen at hm5
            clear hf8 HF6 HR6 H0 H1 H3 H4 HR1 HR2
            have hN := topN_pos s0 sn
            generalize topN s0 sn = N at HA1 HA2 hN
            have hN' : (1 : Int) ≤ (N : Int) := by omega
            rcases HC.out with ⟨hp, hr1, hq⟩ | ⟨hp, hr1, hq⟩ | ⟨⟨k, hp, hk⟩, hr1, hq⟩ | ⟨hp, hr1, hq⟩
            · have h5l := H5.out.len
              rw [hp] at h5l
              obtain rfl : 0 = n5 := h5l
              have e1 := HA1.out
              rw [hr1] at e1
              simp only [ansOf, Ans.mk.injEq] at e1
              obtain ⟨rfl, rfl, rfl, rfl⟩ := e1
              rcases hq with hr2 | hr2 | ⟨s, hr2⟩
              all_goals (
                have e2 := HA2.out
                rw [hr2] at e2
                simp only [ansOf, Ans.mk.injEq] at e2
                obtain ⟨rfl, rfl, rfl, rfl⟩ := e2
                clear HA1 HA2 HC H5
                go_wp2
                go_ret
                exact ⟨rfl, HF8.out⟩)
            · have h5l := H5.out.len
              have h5c := H5.out.cell
              rw [hp] at h5l h5c
              obtain rfl : 1 = n5 := h5l
              obtain ⟨o5, rfl, hc⟩ := h5c (by omega)
              have e5 : w8.cell? ⟨d5, o5, none⟩ = some (.string sn) := hc 0 (by omega)
              have e1 := HA1.out
              rw [hr1] at e1
              simp only [ansOf, Ans.mk.injEq] at e1
              obtain ⟨rfl, rfl, rfl, rfl⟩ := e1
              rcases hq with hr2 | ⟨⟨s, hr2⟩, hD⟩
              all_goals (
                try have hD' : (1 : Int) ≤ (dist s3 : Int) := by omega
                have e2 := HA2.out
                rw [hr2] at e2
                simp only [ansOf, Ans.mk.injEq] at e2
                obtain ⟨rfl, rfl, rfl, rfl⟩ := e2
                clear HA1 HA2 HC H5 hc h5c
                go_wp2
                go_ret
                exact ⟨rfl, HF8.out⟩)
            · have h5l := H5.out.len
              have h5c := H5.out.cell
              rw [hp] at h5l h5c
              obtain rfl : 1 = n5 := h5l
              obtain ⟨o5, rfl, hc⟩ := h5c (by omega)
              have e5 : w8.cell? ⟨d5, o5, none⟩ = some (.string k) := hc 0 (by omega)
              have hne := str_ne hk
              have e2 := HA2.out
              rw [hq] at e2
              simp only [ansOf, Ans.mk.injEq] at e2
              obtain ⟨rfl, rfl, rfl, rfl⟩ := e2
              rcases hr1 with hr1 | ⟨s, hr1⟩
              all_goals (
                have e1 := HA1.out
                rw [hr1] at e1
                simp only [ansOf, Ans.mk.injEq] at e1
                obtain ⟨rfl, rfl, rfl, rfl⟩ := e1
                clear HA1 HA2 HC H5 hc h5c
                go_wp2
                go_ret
                exact ⟨rfl, HF8.out⟩)
            · have h5l := H5.out.len
              have hn2 : 2 ≤ n5 := by omega
              have e2 := HA2.out
              rw [hq] at e2
              simp only [ansOf, Ans.mk.injEq] at e2
              obtain ⟨rfl, rfl, rfl, rfl⟩ := e2
              rcases hr1 with hr1 | ⟨s, hr1⟩
              all_goals (
                have e1 := HA1.out
                rw [hr1] at e1
                simp only [ansOf, Ans.mk.injEq] at e1
                obtain ⟨rfl, rfl, rfl, rfl⟩ := e1
                clear HA1 HA2 HC H5 h5l hp
                go_wp2
                go_ret
                exact ⟨rfl, HF8.out⟩)
end Go.Proofs.Qxb6615914a
