/- THE WALK OF FnValueAtTreeExact. -/
import Derived.Test.Qxb6615914aClone
namespace Go.Proofs.Qxb6615914a
open Go.RowKit
set_option linter.unusedSimpArgs false
set_option linter.unusedVariables false

def MPost (w : World) (e : Ending) (w' : World) : Prop := e = .returned (.bool true) ∧ Fr [] w w'
theorem MPost.mk (w : World) : MPost w (.returned (.bool true)) w := ⟨rfl, Fr.refl _ _⟩

set_option maxRecDepth 20000 in
set_option maxHeartbeats 1000000 in
theorem exact_walk (w : World) (b0 b1 b3 b4 b5 : Nat) (a0 a1 a3 a4 a5 : Option Addr) (n0 c0 n1 c1 n3 c3 n4 c4 n5 c5 : Nat) (s0 s1 s3 s4 s5 : List ByteArray) (sn : ByteArray)
    (h0 : RdS w b0 a0 n0 c0 s0) (h1 : RdS w b1 a1 n1 c1 s1) (h3 : RdS w b3 a3 n3 c3 s3) (h4 : RdS w b4 a4 n4 c4 s4) (h5 : RdS w b5 a5 n5 c5 s5) (hsn : sn.size ≤ maxLen) :
    Calls Try.prog 3 #[.slice a0 n0 c0, .slice a1 n1 c1, .string sn, .slice a3 n3 c3, .slice a4 n4 c4, .slice a5 n5 c5] w (MPost w) := by
  have H0 : Hid (RdS w b0 a0 n0 c0 s0) := h0
  have H1 : Hid (RdS w b1 a1 n1 c1 s1) := h1
  have H3 : Hid (RdS w b3 a3 n3 c3 s3) := h3
  have H4 : Hid (RdS w b4 a4 n4 c4 s4) := h4
  have H5 : Hid (RdS w b5 a5 n5 c5 s5) := h5
  have HK : Hid (sn.size ≤ maxLen) := hsn
  clear h0 h1 h3 h4 h5 hsn
  go_enter Try.func3, Try.ntmps3
  go_upto_if 81 with (first
    | (go_at_call 5; refine (zz5_any _ b0 b1 b3 b4 b5 _ _ _ _ _ _ _ _ _ _ _ _ _ _ _ s0 s1 s3 s4 s5 sn H0.out H1.out H3.out H4.out H5.out).mono ?_; rintro e w2 ⟨⟨t, rfl⟩, rfl⟩)
    | (go_at_call 6; refine (tree_any _ b0 b1 b3 b4 b5 _ _ _ _ _ _ _ _ _ _ _ _ _ _ _ s0 s1 s3 s4 s5 sn H0.out H1.out H3.out H4.out H5.out).mono ?_; rintro e w2 ⟨⟨t6, rfl⟩, rfl⟩))
  all_goals (try (go_ret; exact MPost.mk _))
  obtain rfl : n0 = n1 := by omega
  obtain rfl : n3 = n4 := by
    have : (n3 : Int) = n4 := by simpa using ‹((n3 : Int) != (n4 : Int)) = false›
    omega
  have hn0 : n0 ≤ 4096 := by omega
  have hn3 : n3 ≤ 4096 := by omega
  have hn5 : n5 ≤ 65536 := by omega
  go_cut [0] (fun v wc => ∃ (b : Nat) (a : Option Addr) (c : Nat), v = .slice a n0 c ∧ RdS wc b a n0 c s0 ∧ Fr [] w wc)
  case first =>
    cases a0 with
    | none =>
      go_wp2
      go_meet
      case rel => exact ⟨_, _, _, rfl, H0.out, Fr.refl _ _⟩
    | some x =>
      obtain ⟨g, w1, w2, hr1, hr2, hr3, hr4⟩ := clone_runs _ _ x n0 _ s0 H0.out (by omega)
      have HR3 : Hid _ := hr3
      have HR4 : Hid _ := hr4
      clear hr3 hr4
      go_wp2
      go_meet
      case rel => exact ⟨_, _, _, rfl, HR3.out, HR4.out⟩
  case rest =>
    obtain ⟨wk0, rfl⟩ : ∃ x : World, x = wc := ⟨_, rfl⟩
    obtain ⟨d0, e0, f0, rfl, hR, hF⟩ := hcut
    replace H0 : Hid (RdS wk0 d0 e0 n0 f0 s0) := hR
    replace H1 : Hid (RdS wk0 b1 a1 n0 c1 s1) := H1.out.fr hF (by simp)
    replace H3 : Hid (RdS wk0 b3 a3 n3 c3 s3) := H3.out.fr hF (by simp)
    replace H4 : Hid (RdS wk0 b4 a4 n3 c4 s4) := H4.out.fr hF (by simp)
    replace H5 : Hid (RdS wk0 b5 a5 n5 c5 s5) := H5.out.fr hF (by simp)
    have HF0 : Hid (Fr [] w wk0) := hF
    clear hR hF
    go_upto_if 90 with fail
    go_cut [1] (fun v wc => ∃ (b : Nat) (a : Option Addr) (c : Nat), v = .slice a n0 c ∧ RdS wc b a n0 c s1 ∧ Fr [] wk0 wc)
    case first =>
      cases a1 with
      | none =>
        go_wp2
        go_meet
        case rel => exact ⟨_, _, _, rfl, H1.out, Fr.refl _ _⟩
      | some x =>
        obtain ⟨g, w1, w2, hr1, hr2, hr3, hr4⟩ := clone_runs _ _ x n0 _ s1 H1.out (by omega)
        have HR3 : Hid _ := hr3
        have HR4 : Hid _ := hr4
        clear hr3 hr4
        go_wp2
        go_meet
        case rel => exact ⟨_, _, _, rfl, HR3.out, HR4.out⟩
    case rest =>
      obtain ⟨wk1, rfl⟩ : ∃ x : World, x = wc := ⟨_, rfl⟩
      obtain ⟨d1, e1, f1, rfl, hR, hF⟩ := hcut
      replace H1 : Hid (RdS wk1 d1 e1 n0 f1 s1) := hR
      replace H0 : Hid (RdS wk1 d0 e0 n0 f0 s0) := H0.out.fr hF (by simp)
      replace H3 : Hid (RdS wk1 b3 a3 n3 c3 s3) := H3.out.fr hF (by simp)
      replace H4 : Hid (RdS wk1 b4 a4 n3 c4 s4) := H4.out.fr hF (by simp)
      replace H5 : Hid (RdS wk1 b5 a5 n5 c5 s5) := H5.out.fr hF (by simp)
      have HF1 : Hid (Fr [] w wk1) := HF0.out.trans hF
      clear hR hF HF0
      go_upto_if 99 with fail
      go_cut [3] (fun v wc => ∃ (b : Nat) (a : Option Addr) (c : Nat), v = .slice a n3 c ∧ RdS wc b a n3 c s3 ∧ Fr [] wk1 wc)
      case first =>
        cases a3 with
        | none =>
          go_wp2
          go_meet
          case rel => exact ⟨_, _, _, rfl, H3.out, Fr.refl _ _⟩
        | some x =>
          obtain ⟨g, w1, w2, hr1, hr2, hr3, hr4⟩ := clone_runs _ _ x n3 _ s3 H3.out (by omega)
          have HR3 : Hid _ := hr3
          have HR4 : Hid _ := hr4
          clear hr3 hr4
          go_wp2
          go_meet
          case rel => exact ⟨_, _, _, rfl, HR3.out, HR4.out⟩
      case rest =>
        obtain ⟨wk3, rfl⟩ : ∃ x : World, x = wc := ⟨_, rfl⟩
        obtain ⟨d3, e3, f3, rfl, hR, hF⟩ := hcut
        replace H3 : Hid (RdS wk3 d3 e3 n3 f3 s3) := hR
        replace H0 : Hid (RdS wk3 d0 e0 n0 f0 s0) := H0.out.fr hF (by simp)
        replace H1 : Hid (RdS wk3 d1 e1 n0 f1 s1) := H1.out.fr hF (by simp)
        replace H4 : Hid (RdS wk3 b4 a4 n3 c4 s4) := H4.out.fr hF (by simp)
        replace H5 : Hid (RdS wk3 b5 a5 n5 c5 s5) := H5.out.fr hF (by simp)
        have HF3 : Hid (Fr [] w wk3) := HF1.out.trans hF
        clear hR hF HF1
        go_upto_if 108 with fail
        go_cut [4] (fun v wc => ∃ (b : Nat) (a : Option Addr) (c : Nat), v = .slice a n3 c ∧ RdS wc b a n3 c s4 ∧ Fr [] wk3 wc)
        case first =>
          cases a4 with
          | none =>
            go_wp2
            go_meet
            case rel => exact ⟨_, _, _, rfl, H4.out, Fr.refl _ _⟩
          | some x =>
            obtain ⟨g, w1, w2, hr1, hr2, hr3, hr4⟩ := clone_runs _ _ x n3 _ s4 H4.out (by omega)
            have HR3 : Hid _ := hr3
            have HR4 : Hid _ := hr4
            clear hr3 hr4
            go_wp2
            go_meet
            case rel => exact ⟨_, _, _, rfl, HR3.out, HR4.out⟩
        case rest =>
          obtain ⟨wk4, rfl⟩ : ∃ x : World, x = wc := ⟨_, rfl⟩
          obtain ⟨d4, e4, f4, rfl, hR, hF⟩ := hcut
          replace H4 : Hid (RdS wk4 d4 e4 n3 f4 s4) := hR
          replace H0 : Hid (RdS wk4 d0 e0 n0 f0 s0) := H0.out.fr hF (by simp)
          replace H1 : Hid (RdS wk4 d1 e1 n0 f1 s1) := H1.out.fr hF (by simp)
          replace H3 : Hid (RdS wk4 d3 e3 n3 f3 s3) := H3.out.fr hF (by simp)
          replace H5 : Hid (RdS wk4 b5 a5 n5 c5 s5) := H5.out.fr hF (by simp)
          have HF4 : Hid (Fr [] w wk4) := HF3.out.trans hF
          clear hR hF HF3
          go_upto_if 117 with fail
          go_cut [5] (fun v wc => ∃ (b : Nat) (a : Option Addr) (c : Nat), v = .slice a n5 c ∧ RdS wc b a n5 c s5 ∧ Fr [] wk4 wc)
          case first =>
            cases a5 with
            | none =>
              go_wp2
              go_meet
              case rel => exact ⟨_, _, _, rfl, H5.out, Fr.refl _ _⟩
            | some x =>
              obtain ⟨g, w1, w2, hr1, hr2, hr3, hr4⟩ := clone_runs _ _ x n5 _ s5 H5.out (by omega)
              have HR3 : Hid _ := hr3
              have HR4 : Hid _ := hr4
              clear hr3 hr4
              go_wp2
              go_meet
              case rel => exact ⟨_, _, _, rfl, HR3.out, HR4.out⟩
          case rest =>
            obtain ⟨wk5, rfl⟩ : ∃ x : World, x = wc := ⟨_, rfl⟩
            obtain ⟨d5, e5, f5, rfl, hR, hF⟩ := hcut
            replace H5 : Hid (RdS wk5 d5 e5 n5 f5 s5) := hR
            replace H0 : Hid (RdS wk5 d0 e0 n0 f0 s0) := H0.out.fr hF (by simp)
            replace H1 : Hid (RdS wk5 d1 e1 n0 f1 s1) := H1.out.fr hF (by simp)
            replace H3 : Hid (RdS wk5 d3 e3 n3 f3 s3) := H3.out.fr hF (by simp)
            replace H4 : Hid (RdS wk5 d4 e4 n3 f4 s4) := H4.out.fr hF (by simp)
            have HF5 : Hid (Fr [] w wk5) := HF4.out.trans hF
            clear hR hF HF4
            obtain ⟨r, hr⟩ : ∃ r, walkTo (look (s0.zip s1)) (look (s3.zip s4)) sn Pl.top s5 = r := ⟨_, rfl⟩
            have HR : Hid (walkTo (look (s0.zip s1)) (look (s3.zip s4)) sn Pl.top s5 = r) := hr
            clear hr
            go_wp2_with fail
            refine (tree_ans _ d0 d1 d3 d4 d5 _ _ _ _ _ n0 _ _ n3 _ _ n5 _ s0 s1 s3 s4 s5 sn H0.out H1.out H3.out H4.out H5.out HK.out hn0 hn3 r HR.out).mono ?_
            rintro e w7 ⟨rfl, hf7⟩
            replace H0 : Hid _ := H0.out.fr hf7 (by simp)
            replace H1 : Hid _ := H1.out.fr hf7 (by simp)
            replace H3 : Hid _ := H3.out.fr hf7 (by simp)
            replace H4 : Hid _ := H4.out.fr hf7 (by simp)
            replace H5 : Hid _ := H5.out.fr hf7 (by simp)
            replace HF5 : Hid (Fr [] w w7) := HF5.out.trans hf7
            clear hf7
            obtain ⟨A, hA⟩ : ∃ A, A = ansOf (topN s0 sn) (dist s3) r := ⟨_, rfl⟩
            rw [← hA]
            go_wp2_with fail
            refine (model_ans _ d0 d1 d3 d4 d5 _ _ _ _ _ n0 _ _ n3 _ _ n5 _ s0 s1 s3 s4 s5 sn H0.out H1.out H3.out H4.out H5.out hn0 r HR.out).mono ?_
            rw [← hA]
            rintro e w8 ⟨rfl, hf8⟩
            have HF8 : Hid (Fr [] w w8) := HF5.out.trans hf8
            clear hf8 hA H0 H1 H3 H4 H5 HR
            go_wp2
            go_ret
            exact ⟨rfl, HF8.out⟩
end Go.Proofs.Qxb6615914a
