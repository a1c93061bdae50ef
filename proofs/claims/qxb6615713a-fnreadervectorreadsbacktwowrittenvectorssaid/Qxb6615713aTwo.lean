/- THE WALK of FnReaderVectorReadsBackTwoWrittenVectors. -/
import Derived.Test.Qxb6615713aTwoA
namespace Go.Proofs.Qxb6615713a.fnReaderVectorReadsBackTwoWrittenVectors
open Go.RowKit
set_option linter.unusedSimpArgs false
set_option linter.unusedVariables false

set_option maxHeartbeats 4000000 in
theorem walk_ok (k1 k2 b1 b2 b3 : Nat) (a1 a2 a3 : Option Addr) (n1 c1 n2 c2 n3 c3 : Nat) (x1 x2 x3 : List Int) (w : World) (hd1 : Rd w b1 a1 n1 c1 x1) (hd2 : Rd w b2 a2 n2 c2 x2) (hd3 : Rd w b3 a3 n3 c3 x3)
    (h1 : n1 ≤ 262144) (h2 : n2 ≤ 262144) (h3 : n3 ≤ 262144) (hk1 : k1 ≤ 3) (hk2 : k2 ≤ 3) (q1 : (n1 : Int) < 256 ^ k1) (q2 : (n2 : Int) < 256 ^ k2) :
    Calls Try.prog 4 #[.int .i64 k1, .slice a1 n1 c1, .int .i64 k2, .slice a2 n2 c2, .slice a3 n3 c3] w fun e w' => e = .returned (.bool true) ∧ Below w.heap.size w w' := by
  have g1 : ¬ (262144 : Int) < n1 := by omega
  have g2 : ¬ (262144 : Int) < n2 := by omega
  have g3 : ¬ (262144 : Int) < n3 := by omega
  have g4 : ¬ (k1 : Int) < 0 := by omega
  have g5 : ¬ (3 : Int) < k1 := by omega
  have g6 : ¬ (k2 : Int) < 0 := by omega
  have g7 : ¬ (3 : Int) < k2 := by omega
  obtain ⟨M1, e1⟩ : ∃ M, wrap64 (2 ^ (8 * k1)) = M := ⟨_, rfl⟩
  obtain ⟨M2, e2⟩ : ∃ M, wrap64 (2 ^ (8 * k2)) = M := ⟨_, rfl⟩
  have g8 : (n1 : Int) < M1 := by rw [← e1, pow_wrap hk1]; exact q1
  have g9 : (n2 : Int) < M2 := by rw [← e2, pow_wrap hk2]; exact q2
  have l1 := hd1.len
  have l2 := hd2.len
  have l3 := hd3.len
  have HQ1 : Hid ((n1 : Int) < 256 ^ k1) := q1
  have HQ2 : Hid ((n2 : Int) < 256 ^ k2) := q2
  clear q1 q2
  go_enter Try.func4, Try.ntmps4
  go_wp2_with fail
  refine (zzb21_yes _ _ _ _ _ _ _ _ _ _ _ _ (by omega)).mono ?_
  rintro e w0 ⟨rfl, rfl⟩
  go_wp2_with fail
  clear g1 g2 g3 g4 g5 g6 g7 g8 g9 e1 e2
  refine (clone_any b1 a1 n1 c1 x1 _ hd1 (by omega)).mono ?_
  rintro e w1 ⟨p1, rfl, hp1, hf1⟩
  go_wp2_with fail
  refine (clone_any b2 a2 n2 c2 x2 _ (Rd.fr0 hd2 hf1) (by omega)).mono ?_
  rintro e w2 ⟨p2, rfl, hp2, hf2⟩
  go_wp2_with fail
  refine (clone_any b3 a3 n3 c3 x3 _ (Rd.fr0 (Rd.fr0 hd3 hf1) hf2) (by omega)).mono ?_
  rintro e w3 ⟨p3, rfl, hp3, hf3⟩
  replace hp1 := Rd.fr0 (Rd.fr0 hp1 hf2) hf3
  replace hp2 := Rd.fr0 hp2 hf3
  go_wp2_with fail
  refine (clone_any _ p1 n1 n1 x1 _ hp1 (by omega)).mono ?_
  rintro e w4 ⟨t1, rfl, ht1, hf4⟩
  replace hp1 := Rd.fr0 hp1 hf4
  replace hp2 := Rd.fr0 hp2 hf4
  replace hp3 := Rd.fr0 hp3 hf4
  go_wp2_with fail
  refine (clone_any _ p2 n2 n2 x2 _ hp2 (by omega)).mono ?_
  rintro e w5 ⟨t2, rfl, ht2, hf5⟩
  replace hp1 := Rd.fr0 hp1 hf5
  replace hp2 := Rd.fr0 hp2 hf5
  replace hp3 := Rd.fr0 hp3 hf5
  replace ht1 := Rd.fr0 ht1 hf5
  go_wp2_with fail
  refine (clone_any _ p3 n3 n3 x3 _ hp3 (by omega)).mono ?_
  rintro e w6 ⟨t3, rfl, ht3, hf6⟩
  have B : Below w0.heap.size w0 w6 := (((((hf1.below (Nat.le_refl _) (fun k hk => by cases hk)).trans (hf2.below hf1.size (fun k hk => by cases hk))).trans (hf3.below (by have := hf1.size; have := hf2.size; omega) (fun k hk => by cases hk))).trans (hf4.below (by have := hf1.size; have := hf2.size; have := hf3.size; omega) (fun k hk => by cases hk))).trans (hf5.below (by have := hf1.size; have := hf2.size; have := hf3.size; have := hf4.size; omega) (fun k hk => by cases hk))).trans (hf6.below (by have := hf1.size; have := hf2.size; have := hf3.size; have := hf4.size; have := hf5.size; omega) (fun k hk => by cases hk))
  replace hp1 := Rd.fr0 hp1 hf6
  replace hp2 := Rd.fr0 hp2 hf6
  replace hp3 := Rd.fr0 hp3 hf6
  replace ht1 := Rd.fr0 ht1 hf6
  replace ht2 := Rd.fr0 ht2 hf6
  clear hf1 hf2 hf3 hf4 hf5 hf6 hd1 hd2 hd3
  generalize w0.heap.size = P1 at hp1
  generalize w1.heap.size = P2 at hp2
  generalize w2.heap.size = P3 at hp3
  generalize w3.heap.size = T1 at ht1
  generalize w4.heap.size = T2 at ht2
  generalize w5.heap.size = T3 at ht3
  go_wp2_with fail
  have M1 : Hid (0 < n1 → P1 < w6.heap.size) := hp1.lt
  have M2 : Hid (0 < n2 → P2 < w6.heap.size) := hp2.lt
  have M3 : Hid (0 < n3 → P3 < w6.heap.size) := hp3.lt
  have U1 : Hid (0 < n1 → T1 < w6.heap.size) := ht1.lt
  have U2 : Hid (0 < n2 → T2 < w6.heap.size) := ht2.lt
  have U3 : Hid (0 < n3 → T3 < w6.heap.size) := ht3.lt
  have S6 : Hid (w0.heap.size ≤ w6.heap.size) := B.size
  refine (znewWriter _).mono ?_
  rintro e w7 ⟨rfl, hw7, hf7⟩
  replace hp1 := Rd.fr0 hp1 hf7
  replace hp2 := Rd.fr0 hp2 hf7
  replace hp3 := Rd.fr0 hp3 hf7
  replace ht1 := Rd.fr0 ht1 hf7
  replace ht2 := Rd.fr0 ht2 hf7
  replace ht3 := Rd.fr0 ht3 hf7
  replace B := B.trans (hf7.below B.size (fun k hk => by cases hk))
  have S7 : Hid (w6.heap.size < w7.heap.size) := hw7.lt
  clear hf7
  go_wp2_with fail
  refine (zbytesVector _ k1 _ _ [] _ p1 n1 n1 _ hw7 hk1 hp1 (fun h => ⟨by have := M1.out h; omega, by simp [Value.ownBlock]⟩) (by rw [l1]; exact HQ1.out) (by simp; omega)).mono ?_
  rintro e w8 ⟨rfl, v8, hw8, hg8⟩
  have O8 : Hid (∀ g, v8.ownBlock = some g → w6.heap.size < g) := fun g hg => by
    rcases hg8.own g hg with h' | h'
    · simp [Value.ownBlock] at h'
    · have := S7.out; omega
  have S8 : Hid (w7.heap.size ≤ w8.heap.size) := hg8.size
  have keep8 : ∀ {b a n c xs}, Rd w7 b a n c xs → (0 < n → b < w6.heap.size) → Rd w8 b a n c xs := fun h hb => hg8.rd h (fun hn => ⟨by have := hb hn; omega, by simp [Value.ownBlock]⟩)
  replace hp2 := keep8 hp2 M2.out
  replace hp3 := keep8 hp3 M3.out
  replace ht1 := keep8 ht1 U1.out
  replace ht2 := keep8 ht2 U2.out
  replace ht3 := keep8 ht3 U3.out
  replace B := B.trans (hg8.below (B := w0.heap.size) (by have := S6.out; have := S7.out; omega) S6.out (fun g hg => by simp [Value.ownBlock] at hg))
  rw [List.nil_append, l1] at hw8
  clear hg8 keep8 hp1
  go_wp2_with fail
  refine (zbytesVector _ k2 _ v8 _ _ p2 n2 n2 _ hw8 hk2 hp2 (fun h => ⟨by have := M2.out h; omega, fun e => by have := O8.out _ e; have := M2.out h; omega⟩) (by rw [l2]; exact HQ2.out) (by simp [be_length]; omega)).mono ?_
  rintro e w9 ⟨rfl, v9, hw9, hg9⟩
  have O9 : Hid (∀ g, v9.ownBlock = some g → w6.heap.size < g) := fun g hg => by
    rcases hg9.own g hg with h' | h'
    · exact O8.out g h'
    · have := S7.out; have := S8.out; omega
  have S9 : Hid (w8.heap.size ≤ w9.heap.size) := hg9.size
  have keep9 : ∀ {b a n c xs}, Rd w8 b a n c xs → (0 < n → b < w6.heap.size) → Rd w9 b a n c xs := fun h hb => hg9.rd h (fun hn => ⟨by have := hb hn; omega, fun e => by have := O8.out _ e; have := hb hn; omega⟩)
  replace hp3 := keep9 hp3 M3.out
  replace ht1 := keep9 ht1 U1.out
  replace ht2 := keep9 ht2 U2.out
  replace ht3 := keep9 ht3 U3.out
  replace B := B.trans (hg9.below (B := w0.heap.size) (by have := S6.out; have := S7.out; have := S8.out; omega) S6.out (fun g hg => by have := O8.out g hg; have := S6.out; omega))
  rw [l2] at hw9
  clear hg9 keep9 hp2
  go_wp2_with fail
  refine (zbytes _ _ v9 _ _ p3 n3 n3 _ hw9 hp3 (by simp [be_length]; omega)).mono ?_
  rintro e w10 ⟨rfl, v10, hw10, hg10⟩
  have O10 : Hid (∀ g, v10.ownBlock = some g → w6.heap.size < g) := fun g hg => by
    rcases hg10.own g hg with h' | h'
    · exact O9.out g h'
    · have := S7.out; have := S8.out; have := S9.out; omega
  have S10 : Hid (w9.heap.size ≤ w10.heap.size) := hg10.size
  have keep10 : ∀ {b a n c xs}, Rd w9 b a n c xs → (0 < n → b < w6.heap.size) → Rd w10 b a n c xs := fun h hb => hg10.rd h (fun hn => ⟨by have := hb hn; omega, fun e => by have := O9.out _ e; have := hb hn; omega⟩)
  replace ht1 := keep10 ht1 U1.out
  replace ht2 := keep10 ht2 U2.out
  replace ht3 := keep10 ht3 U3.out
  replace B := B.trans (hg10.below (B := w0.heap.size) (by have := S6.out; have := S7.out; have := S8.out; have := S9.out; omega) S6.out (fun g hg => by have := O9.out g hg; have := S6.out; omega))
  have SS : Hid (w0.heap.size ≤ w6.heap.size ∧ w6.heap.size < w10.heap.size) := ⟨S6.out, by have := S7.out; have := S8.out; have := S9.out; have := S10.out; omega⟩
  clear hg10 keep10 hp3 O9 O8 hw9 hw8 hw7 S6 S7 S8 S9 S10 M1 M2 M3
  obtain ⟨bb, ab, cb, hvb, hdb, hob⟩ := hw10.own.rd hw10.wf
  have hlb : (be k1 n1 ++ x1 ++ be k2 n2 ++ x2 ++ x3).length = k1 + n1 + k2 + n2 + n3 := by simp [be_length, l1, l2, l3]; omega
  rw [hlb] at hvb hdb
  have HOB : Hid (0 < k1 + n1 + k2 + n2 + n3 → w6.heap.size < bb ∧ bb < w10.heap.size) := fun h => by
    have e := hob (by rw [hlb]; exact h)
    exact ⟨O10.out _ e, hw10.own.lt e⟩
  rw [hvb] at hw10
  have E1 : be k1 n1 ++ x1 ++ be k2 n2 ++ x2 ++ x3 = be k1 n1 ++ (x1 ++ (be k2 n2 ++ (x2 ++ x3))) := by simp
  rw [E1] at hdb
  clear hob hlb E1 O10 hvb
  go_wp2_with fail
  refine (zout _ _ _ _ _ _ hw10).mono ?_
  rintro e w11 ⟨rfl, rfl⟩
  go_wp2_with fail
  refine (znewReader _ _ _ _ _).mono ?_
  rintro e w12 ⟨rfl, hr12, hf12⟩
  replace ht1 := Rd.fr0 ht1 hf12
  replace ht2 := Rd.fr0 ht2 hf12
  replace ht3 := Rd.fr0 ht3 hf12
  replace hdb := Rd.fr0 hdb hf12
  go_wp2_with fail
  have hne : Hid (0 < k1 + n1 + k2 + n2 + n3 → bb ≠ w11.heap.size) := fun h => by have := HOB.out h; omega
  have t1 : List.take k1 (be k1 n1 ++ (x1 ++ (be k2 n2 ++ (x2 ++ x3)))) = be k1 n1 := List.take_left' (be_length _ _)
  have t2 : List.drop k1 (be k1 n1 ++ (x1 ++ (be k2 n2 ++ (x2 ++ x3)))) = x1 ++ (be k2 n2 ++ (x2 ++ x3)) := List.drop_left' (be_length _ _)
  have t3 : List.take n1 (x1 ++ (be k2 n2 ++ (x2 ++ x3))) = x1 := List.take_left' l1
  have t4 : List.drop n1 (x1 ++ (be k2 n2 ++ (x2 ++ x3))) = be k2 n2 ++ (x2 ++ x3) := List.drop_left' l1
  have T5 : Hid (beV (List.take k1 (be k1 n1 ++ (x1 ++ (be k2 n2 ++ (x2 ++ x3))))) = n1) := by
    show _ = _
    rw [t1, beV_be _ _ (by omega) HQ1.out]
  have C1 := zvector_ok w11.heap.size k1 n1 bb ab (k1 + n1 + k2 + n2 + n3) cb _ _ hr12 hdb (by omega) hne.out hk1 T5.out (by omega)
  rw [t2, t3, t4] at C1
  refine C1.mono ?_
  clear C1 t1 t2 t3 t4 T5
  rintro e w13 ⟨y1, rfl, hy1, y2, hr13, hy2, hf13⟩
  have Z : Hid (w11.heap.size < w12.heap.size) := lt_of_block hr12
  have mv13 : ∀ {b a n c xs}, Rd w12 b a n c xs → (0 < n → b ≠ w11.heap.size) → Rd w13 b a n c xs := fun h hb => h.move fun hn => hf13.block _ (h.lt hn) (by simp; exact hb hn)
  replace ht1 := mv13 ht1 (fun h => by have := U1.out h; have := SS.out.2; omega)
  replace ht2 := mv13 ht2 (fun h => by have := U2.out h; have := SS.out.2; omega)
  replace ht3 := mv13 ht3 (fun h => by have := U3.out h; have := SS.out.2; omega)
  replace hy1 := mv13 hy1 (fun h => hne.out (by omega))
  replace hy2 := mv13 hy2 (fun h => hne.out (by omega))
  have el : k1 + n1 + k2 + n2 + n3 - k1 - n1 = k2 + n2 + n3 := by omega
  rw [el] at hy2 hr13
  replace B := (B.trans (hf12.below (B := w0.heap.size) (by have := SS.out; omega) (fun k hk => by cases hk))).trans (hf13.below (B := w0.heap.size) (by have := SS.out; have := Z.out; omega) (fun k hk => by simp at hk; have := SS.out; omega))
  have Z13 : Hid (w12.heap.size ≤ w13.heap.size) := hf13.size
  clear mv13 hr12 hdb hf12 hf13 el
  go_wp2_with fail
  have t1 : List.take k2 (be k2 n2 ++ (x2 ++ x3)) = be k2 n2 := List.take_left' (be_length _ _)
  have t2 : List.drop k2 (be k2 n2 ++ (x2 ++ x3)) = x2 ++ x3 := List.drop_left' (be_length _ _)
  have t3 : List.take n2 (x2 ++ x3) = x2 := List.take_left' l2
  have t4 : List.drop n2 (x2 ++ x3) = x3 := List.drop_left' l2
  have T5 : Hid (beV (List.take k2 (be k2 n2 ++ (x2 ++ x3))) = n2) := by
    show _ = _
    rw [t1, beV_be _ _ (by omega) HQ2.out]
  have C2 := zvector_ok w11.heap.size k2 n2 bb y2 (k2 + n2 + n3) _ _ _ hr13 hy2 (by omega) (fun h => hne.out (by omega)) hk2 T5.out (by omega)
  rw [t2, t3, t4] at C2
  refine C2.mono ?_
  clear C2 t1 t2 t3 t4 T5
  rintro e w14 ⟨y3, rfl, hy3, y4, hr14, hy4, hf14⟩
  have mv14 : ∀ {b a n c xs}, Rd w13 b a n c xs → (0 < n → b ≠ w11.heap.size) → Rd w14 b a n c xs := fun h hb => h.move fun hn => hf14.block _ (h.lt hn) (by simp; exact hb hn)
  replace ht1 := mv14 ht1 (fun h => by have := U1.out h; have := SS.out.2; omega)
  replace ht2 := mv14 ht2 (fun h => by have := U2.out h; have := SS.out.2; omega)
  replace ht3 := mv14 ht3 (fun h => by have := U3.out h; have := SS.out.2; omega)
  replace hy1 := mv14 hy1 (fun h => hne.out (by omega))
  replace hy3 := mv14 hy3 (fun h => hne.out (by omega))
  replace hy4 := mv14 hy4 (fun h => hne.out (by omega))
  have el : k2 + n2 + n3 - k2 - n2 = n3 := by omega
  rw [el] at hy4 hr14
  replace B := B.trans (hf14.below (B := w0.heap.size) (by have := SS.out; have := Z.out; have := Z13.out; omega) (fun k hk => by simp at hk; have := SS.out; omega))
  have SZ : Hid (w0.heap.size ≤ w14.heap.size) := by have := SS.out; have := Z.out; have := Z13.out; have := hf14.size; show _ ≤ _; omega
  clear mv14 hf14 el hy2 hr13 Z Z13 SS hne U1 U2 U3 HOB
  go_wp2_with fail
  refine (zfailed _ _ _ _ _ _ hr14).mono ?_
  rintro e w15 ⟨rfl, rfl⟩
  go_wp2_with fail
  refine (equal_yes _ _ _ _ _ _ _ _ _ hy1 ht1).mono ?_
  rintro e w16 ⟨rfl, hf16⟩
  go_wp2_with fail
  refine (equal_yes _ _ _ _ _ _ _ _ _ (Rd.fr0 hy3 hf16) (Rd.fr0 ht2 hf16)).mono ?_
  rintro e w17 ⟨rfl, hf17⟩
  have hr17 : RdrAt w17 w11.heap.size y4 n3 _ false := (hf17.block _ (by have := hf16.size; have := lt_of_block hr14; omega) (by simp)).trans ((hf16.block _ (lt_of_block hr14) (by simp)).trans hr14)
  go_wp2_with fail
  refine (zrest _ _ _ _ _ _ hr17).mono ?_
  rintro e w18 ⟨rfl, rfl⟩
  go_wp2_with fail
  refine (equal_yes _ _ _ _ _ _ _ _ _ (Rd.fr0 (Rd.fr0 hy4 hf16) hf17) (Rd.fr0 (Rd.fr0 ht3 hf16) hf17)).mono ?_
  rintro e w19 ⟨rfl, hf19⟩
  go_wp2
  go_ret
  refine ⟨rfl, ?_⟩
  have z1 := SZ.out
  have z2 := hf16.size
  have z3 := hf17.size
  exact ((B.trans (hf16.below z1 (fun k hk => by cases hk))).trans (hf17.below (by omega) (fun k hk => by cases hk))).trans (hf19.below (by omega) (fun k hk => by cases hk))

theorem walk (a0 : Int) (a1 : Option Addr) (len1 cap1 : Nat) (z1 : List Int) (a2 : Int) (a3 : Option Addr) (len3 cap3 : Nat) (z3 : List Int) (a4 : Option Addr) (len4 cap4 : Nat) (z4 : List Int) (w : World) (w0 : (Lit.int .i64 a0).wf = true) (w1 : IsRow .u8 w a1 len1 cap1 z1) (w2 : (Lit.int .i64 a2).wf = true) (w3 : IsRow .u8 w a3 len3 cap3 z3) (w4 : IsRow .u8 w a4 len4 cap4 z4) :
    Calls Try.prog 4 #[.int .i64 a0, .slice a1 len1 cap1, .int .i64 a2, .slice a3 len3 cap3, .slice a4 len4 cap4] w fun e w' => e = .returned (.bool true) ∧ Below w.heap.size w w' := by
  obtain ⟨b1, hd1, _⟩ := w1.rd
  obtain ⟨b3, hd3, _⟩ := w3.rd
  obtain ⟨b4, hd4, _⟩ := w4.rd
  by_cases h : 262144 < len1 ∨ 262144 < len3 ∨ 262144 < len4 ∨ a0 < 0 ∨ 3 < a0 ∨ a2 < 0 ∨ 3 < a2
  · exact walk_early _ _ _ _ _ _ _ _ _ _ _ _ h
  · obtain ⟨k1, rfl⟩ := Int.eq_ofNat_of_zero_le (show 0 ≤ a0 by omega)
    obtain ⟨k2, rfl⟩ := Int.eq_ofNat_of_zero_le (show 0 ≤ a2 by omega)
    by_cases h' : 256 ^ k1 ≤ (len1 : Int) ∨ 256 ^ k2 ≤ (len3 : Int)
    · exact walk_long k1 k2 _ _ _ _ _ _ _ _ _ _ (by omega) (by omega) (by omega) (by omega) (by omega) h'
    · rw [not_or, Int.not_le, Int.not_le] at h'
      exact walk_ok k1 k2 b1 b3 b4 _ _ _ _ _ _ _ _ _ _ _ _ _ hd1 hd3 hd4 (by omega) (by omega) (by omega) (by omega) (by omega) h'.1 h'.2
end Go.Proofs.Qxb6615713a.fnReaderVectorReadsBackTwoWrittenVectors
