/- THE WALK of FnReaderVectorParseThenWriteGivesBack. -/
import Derived.Test.Qxb6615713aArgs
namespace Go.Proofs.Qxb6615713a.fnReaderVectorParseThenWriteGivesBack
open Go.RowKit
set_option linter.unusedSimpArgs false
set_option linter.unusedVariables false

set_option maxHeartbeats 1000000 in
theorem walk_bad (k b : Nat) (a : Option Addr) (n c : Nat) (f : Bool) (xs : List Int) (w : World) (hd : Rd w b a n c xs) (hn : n ≤ 1048576) (hk : k ≤ 3) (hbad : f = true ∨ n < k) :
    Calls Try.prog 3 #[.slice a n c, .bool f, .int .i64 k] w fun e w' => e = .returned (.bool true) ∧ Below w.heap.size w w' := by
  have hcap := hd.cap
  have hmax := hd.max
  unfold maxLen at hmax
  have hn' : ¬ (1048576 : Int) < n := by omega
  have hk1 : ¬ ((k : Int) < 0) := by omega
  have hk2 : ¬ ((3 : Int) < k) := by omega
  go_enter Try.func3, Try.ntmps3
  go_wp2_with fail
  refine (zzb10_yes _ _ _ _ _ _ hn).mono ?_
  rintro e w0 ⟨rfl, rfl⟩
  go_wp2_with fail
  refine (clone_any b a n c xs _ hd (by omega)).mono ?_
  rintro e w1 ⟨a1, rfl, hd1, hf1⟩
  go_wp2_with fail
  refine (clone_any _ a1 n n xs _ hd1 (by omega)).mono ?_
  rintro e w2 ⟨a2, rfl, hd2, hf2⟩
  go_wp2_with fail
  refine (znewReader _ _ _ _ _).mono ?_
  rintro e w3 ⟨rfl, hr3, hf3⟩
  go_wp2_with fail
  refine (zvector_bad _ k _ _ _ f _ hr3 hbad).mono ?_
  rintro e w4 ⟨rfl, hr4, hf4⟩
  go_wp2_with fail
  refine (zrest _ _ _ _ _ _ hr4).mono ?_
  rintro e w5 ⟨rfl, rfl⟩
  go_wp2_with fail
  refine (zfailed _ _ _ _ _ _ hr4).mono ?_
  rintro e w6 ⟨rfl, rfl⟩
  have hs1 := hf1.size
  have hs2 := hf2.size
  have hs3 := hf3.size
  have hs4 := hf4.size
  have hdr : Rd w6 w0.heap.size a1 n n xs := ((hd1.move fun h => hf2.block _ (hd1.lt h) (by simp)).move fun h => hf3.block _ (by have := hd1.lt h; omega) (by simp)).move fun h => hf4.block _ (by have := hd1.lt h; omega) (by have := hd1.lt h; simp; omega)
  have hdo : Rd w6 w1.heap.size a2 n n xs := (hd2.move fun h => hf3.block _ (hd2.lt h) (by simp)).move fun h => hf4.block _ (by have := hd2.lt h; omega) (by have := hd2.lt h; simp; omega)
  have B : Below w0.heap.size w0 w6 := (((hf1.below (Nat.le_refl _) (fun k hk => by cases hk)).trans (hf2.below hs1 (fun k hk => by cases hk))).trans (hf3.below (by omega) (fun k hk => by cases hk))).trans (hf4.below (by omega) (fun k hk => by simp at hk; omega))
  clear hf1 hf2 hf3 hf4 hr3 hr4 hd1 hd2
  cases f with
  | true =>
    go_wp2_with fail
    refine (equal_yes _ _ _ _ _ _ _ _ _ hdr hdo).mono ?_
    rintro e w7 ⟨rfl, hf7⟩
    go_wp2
    go_ret
    exact ⟨rfl, B.trans (hf7.below (by omega) (fun k hk => by cases hk))⟩
  | false =>
    have hlt : n < k := by simpa using hbad
    have hlt1 : ¬ ((k : Int) ≤ n) := by omega
    go_wp2_with fail
    refine (equal_yes _ _ _ _ _ _ _ _ _ hdr hdo).mono ?_
    rintro e w7 ⟨rfl, hf7⟩
    go_wp2
    go_ret
    exact ⟨rfl, B.trans (hf7.below (by omega) (fun k hk => by cases hk))⟩

set_option maxHeartbeats 2000000 in
theorem walk_long (k b m : Nat) (a : Option Addr) (n c : Nat) (xs : List Int) (w : World) (hd : Rd w b a n c xs) (hn : n ≤ 1048576) (hk : k ≤ 3) (hkn : k ≤ n) (hm : beV (xs.take k) = m) (hmn : n < k + m) :
    Calls Try.prog 3 #[.slice a n c, .bool false, .int .i64 k] w fun e w' => e = .returned (.bool true) ∧ Below w.heap.size w w' := by
  have hcap := hd.cap
  have hmax := hd.max
  unfold maxLen at hmax
  have hwf := hd.wf
  have hlen := hd.len
  have hm4 : m < 16777216 := by
    have h1 := beV_bound (xs.take k) (fun x hx => hwf x (List.mem_of_mem_take hx))
    have h2 : (xs.take k).length = k := by simp; omega
    rw [hm, h2] at h1
    have hp : (256 : Int) ^ k ≤ 16777216 := by
      rcases (show k = 0 ∨ k = 1 ∨ k = 2 ∨ k = 3 by omega) with rfl | rfl | rfl | rfl <;> decide
    omega
  have HM : Hid (beV (xs.take k) = m) := hm
  clear hm
  have hn' : ¬ (1048576 : Int) < n := by omega
  have hk1 : ¬ ((k : Int) < 0) := by omega
  have hk2 : ¬ ((3 : Int) < k) := by omega
  go_enter Try.func3, Try.ntmps3
  go_wp2_with fail
  refine (zzb10_yes _ _ _ _ _ _ hn).mono ?_
  rintro e w0 ⟨rfl, rfl⟩
  go_wp2_with fail
  refine (clone_any b a n c xs _ hd (by omega)).mono ?_
  rintro e w1 ⟨a1, rfl, hd1, hf1⟩
  go_wp2_with fail
  refine (clone_any _ a1 n n xs _ hd1 (by omega)).mono ?_
  rintro e w2 ⟨a2, rfl, hd2, hf2⟩
  go_wp2_with fail
  refine (znewReader _ _ _ _ _).mono ?_
  rintro e w3 ⟨rfl, hr3, hf3⟩
  have hs1 := hf1.size
  have hs2 := hf2.size
  have hs3 := hf3.size
  have hd3 : Rd w3 w0.heap.size a1 n n xs := (hd1.move fun h => hf2.block _ (hd1.lt h) (by simp)).move fun h => hf3.block _ (by have := hd1.lt h; omega) (by simp)
  have hdo3 : Rd w3 w1.heap.size a2 n n xs := hd2.move fun h => hf3.block _ (hd2.lt h) (by simp)
  have hl1 : 0 < n → w0.heap.size < w1.heap.size := fun h => hd1.lt h
  have hl2 : 0 < n → w1.heap.size < w2.heap.size := fun h => hd2.lt h
  go_wp2_with fail
  refine (zvector_long _ k m w0.heap.size a1 n n xs _ hr3 hd3 hkn (fun h => by have := hl1 h; omega) hk HM.out hmn (by omega)).mono ?_
  rintro e w4 ⟨rfl, a4, hr4, hd4, hf4⟩
  go_wp2_with fail
  refine (zrest _ _ _ _ _ _ hr4).mono ?_
  rintro e w5 ⟨rfl, rfl⟩
  go_wp2_with fail
  refine (zfailed _ _ _ _ _ _ hr4).mono ?_
  rintro e w6 ⟨rfl, rfl⟩
  have hs4 := hf4.size
  have hdr : Rd w6 w0.heap.size a4 (n - k) (n - k) (xs.drop k) := hd4.move fun h => hf4.block _ (by have := hl1 (by omega); omega) (by have := hl1 (by omega); simp; omega)
  have hdo : Rd w6 w1.heap.size a2 n n xs := hdo3.move fun h => hf4.block _ (by have := hl2 h; omega) (by have := hl2 h; simp; omega)
  have B : Below w0.heap.size w0 w6 := (((hf1.below (Nat.le_refl _) (fun k hk => by cases hk)).trans (hf2.below hs1 (fun k hk => by cases hk))).trans (hf3.below (by omega) (fun k hk => by cases hk))).trans (hf4.below (by omega) (fun k hk => by simp at hk; omega))
  clear hf1 hf2 hf3 hf4 hr3 hr4 hd1 hd2 hd3 hdo3 hd4
  have hge : (k : Int) ≤ n := by omega
  go_wp2_with fail
  go_loop [13, 14] (fun v i => ∃ j : Nat, j ≤ k ∧ i = .int .i64 j ∧ v = .int .i64 (beV (xs.take j))) (fun _ i => k - (intOf i).toNat)
  case atStart => exact ⟨0, Nat.zero_le _, rfl, rfl⟩
  case round =>
    obtain ⟨j, hj, rfl, rfl⟩ := hrel
    by_cases hlt : j < k
    · obtain ⟨o, rfl, hcell⟩ := hdo.cell (by omega)
      have hcj := hcell j (by omega)
      clear hcell
      have hB := beV_bound (xs.take j) (fun x hx => hwf x (List.mem_of_mem_take hx))
      have hB2 : beV (xs.take j) < 16777216 := by
        have hl : (xs.take j).length ≤ 2 := by simp; omega
        have hp : (256 : Int) ^ (xs.take j).length ≤ 65536 := by
          rcases (show (xs.take j).length = 0 ∨ (xs.take j).length = 1 ∨ (xs.take j).length = 2 by omega) with e | e | e <;> rw [e] <;> decide
        omega
      have hg := getD_bound hwf j
      have hstep : Hid (beV (xs.take (j + 1)) = beV (xs.take j) * 256 + xs.getD j 0) := by
        show _ = _
        rw [take_snoc (by omega), beV_snoc]
      obtain ⟨hB0, _⟩ := hB
      obtain ⟨hg0, hg1⟩ := hg
      generalize xs.getD j 0 = x at hcj hstep hg0 hg1
      generalize beV (xs.take j) = y at hstep hB0 hB2 ⊢
      clear hwf
      go_wp2
      go_round
      case rel => exact ⟨j + 1, by omega, by go_num, by rw [hstep.out]⟩
      case measure => simp [intOf]; omega
    · obtain rfl : j = k := by omega
      rw [HM.out]
      have hgt : (n : Int) - j < m := by omega
      by_cases hcj : n = j
      · subst hcj
        go_wp2_with fail
        refine (equal_yes 0 0 _ _ 0 0 0 [] _ (Rd.zero _ _ _) (Rd.zero _ _ _)).mono ?_
        rintro e w7 ⟨rfl, hf7⟩
        go_wp2
        go_ret
        exact ⟨rfl, B.trans (hf7.below (by omega) (fun k hk => by cases hk))⟩
      · go_wp2_with fail
        refine (equal_yes _ _ _ _ _ _ _ _ _ hdr (hdo.drop hkn)).mono ?_
        rintro e w7 ⟨rfl, hf7⟩
        go_wp2
        go_ret
        exact ⟨rfl, B.trans (hf7.below (by omega) (fun k hk => by cases hk))⟩

set_option maxHeartbeats 2000000 in
theorem walk_ok (k b m : Nat) (a : Option Addr) (n c : Nat) (xs : List Int) (w : World) (hd : Rd w b a n c xs) (hn : n ≤ 1048576) (hk : k ≤ 3) (hkn : k ≤ n) (hm : beV (xs.take k) = m) (hmn : k + m ≤ n) :
    Calls Try.prog 3 #[.slice a n c, .bool false, .int .i64 k] w fun e w' => e = .returned (.bool true) ∧ Below w.heap.size w w' := by
  have hcap := hd.cap
  have hmax := hd.max
  unfold maxLen at hmax
  have hwf := hd.wf
  have hlen := hd.len
  have hm4 : (m : Int) < 256 ^ k := by
    have h1 := beV_bound (xs.take k) (fun x hx => hwf x (List.mem_of_mem_take hx))
    have h2 : (xs.take k).length = k := by simp; omega
    rw [hm, h2] at h1
    exact h1.2
  have HM4 : Hid ((m : Int) < 256 ^ k) := hm4
  have HM : Hid (beV (xs.take k) = m) := hm
  have HB : Hid (be k m ++ ((xs.drop k).take m ++ (xs.drop k).drop m) = xs) := by
    show _ = _
    have h2 : (xs.take k).length = k := by simp; omega
    have h3 := be_beV (xs.take k) (fun x hx => hwf x (List.mem_of_mem_take hx))
    rw [h2, hm] at h3
    rw [h3, List.take_append_drop, List.take_append_drop]
  clear hm hm4
  have hn' : ¬ (1048576 : Int) < n := by omega
  have hk1 : ¬ ((k : Int) < 0) := by omega
  have hk2 : ¬ ((3 : Int) < k) := by omega
  go_enter Try.func3, Try.ntmps3
  go_wp2_with fail
  refine (zzb10_yes _ _ _ _ _ _ hn).mono ?_
  rintro e w0 ⟨rfl, rfl⟩
  go_wp2_with fail
  refine (clone_any b a n c xs _ hd (by omega)).mono ?_
  rintro e w1 ⟨a1, rfl, hd1, hf1⟩
  go_wp2_with fail
  refine (clone_any _ a1 n n xs _ hd1 (by omega)).mono ?_
  rintro e w2 ⟨a2, rfl, hd2, hf2⟩
  go_wp2_with fail
  refine (znewReader _ _ _ _ _).mono ?_
  rintro e w3 ⟨rfl, hr3, hf3⟩
  have hs1 := hf1.size
  have hs2 := hf2.size
  have hs3 := hf3.size
  have hd3 : Rd w3 w0.heap.size a1 n n xs := (hd1.move fun h => hf2.block _ (hd1.lt h) (by simp)).move fun h => hf3.block _ (by have := hd1.lt h; omega) (by simp)
  have hdo3 : Rd w3 w1.heap.size a2 n n xs := hd2.move fun h => hf3.block _ (hd2.lt h) (by simp)
  have hl1 : 0 < n → w0.heap.size < w1.heap.size := fun h => hd1.lt h
  have hl2 : 0 < n → w1.heap.size < w2.heap.size := fun h => hd2.lt h
  go_wp2_with fail
  refine (zvector_ok _ k m w0.heap.size a1 n n xs _ hr3 hd3 hkn (fun h => by have := hl1 h; omega) hk HM.out hmn).mono ?_
  rintro e w4 ⟨av, rfl, hdv, a4, hr4, hd4, hf4⟩
  go_wp2_with fail
  refine (zrest _ _ _ _ _ _ hr4).mono ?_
  rintro e w5 ⟨rfl, rfl⟩
  go_wp2_with fail
  refine (zfailed _ _ _ _ _ _ hr4).mono ?_
  rintro e w6 ⟨rfl, rfl⟩
  have hs4 := hf4.size
  have hmv : 0 < n → w6.heap[w0.heap.size]? = w3.heap[w0.heap.size]? := fun h => hf4.block _ (by have := hl1 h; omega) (by have := hl1 h; simp; omega)
  have hdr : Rd w6 w0.heap.size a4 (n - k - m) (n - k - m) ((xs.drop k).drop m) := hd4.move fun h => hmv (by omega)
  have hdv6 : Rd w6 w0.heap.size av m m ((xs.drop k).take m) := hdv.move fun h => hmv (by omega)
  have hdo : Rd w6 w1.heap.size a2 n n xs := hdo3.move fun h => hf4.block _ (by have := hl2 h; omega) (by have := hl2 h; simp; omega)
  have B : Below w0.heap.size w0 w6 := (((hf1.below (Nat.le_refl _) (fun k hk => by cases hk)).trans (hf2.below hs1 (fun k hk => by cases hk))).trans (hf3.below (by omega) (fun k hk => by cases hk))).trans (hf4.below (by omega) (fun k hk => by simp at hk; omega))
  clear hf1 hf2 hf3 hf4 hr3 hr4 hd1 hd2 hd3 hdo3 hd4 hdv hmv
  have hge : (k : Int) ≤ n := by omega
  go_wp2_with fail
  go_loop [13, 14] (fun v i => ∃ j : Nat, j ≤ k ∧ i = .int .i64 j ∧ v = .int .i64 (beV (xs.take j))) (fun _ i => k - (intOf i).toNat)
  case atStart => exact ⟨0, Nat.zero_le _, rfl, rfl⟩
  case round =>
    obtain ⟨j, hj, rfl, rfl⟩ := hrel
    by_cases hlt : j < k
    · obtain ⟨o, rfl, hcell⟩ := hdo.cell (by omega)
      have hcj := hcell j (by omega)
      clear hcell
      have hB := beV_bound (xs.take j) (fun x hx => hwf x (List.mem_of_mem_take hx))
      have hB2 : beV (xs.take j) < 16777216 := by
        have hl : (xs.take j).length ≤ 2 := by simp; omega
        have hp : (256 : Int) ^ (xs.take j).length ≤ 65536 := by
          rcases (show (xs.take j).length = 0 ∨ (xs.take j).length = 1 ∨ (xs.take j).length = 2 by omega) with e | e | e <;> rw [e] <;> decide
        omega
      have hg := getD_bound hwf j
      have hstep : Hid (beV (xs.take (j + 1)) = beV (xs.take j) * 256 + xs.getD j 0) := by
        show _ = _
        rw [take_snoc (by omega), beV_snoc]
      obtain ⟨hB0, _⟩ := hB
      obtain ⟨hg0, hg1⟩ := hg
      generalize xs.getD j 0 = x at hcj hstep hg0 hg1
      generalize beV (xs.take j) = y at hstep hB0 hB2 ⊢
      clear hwf
      go_wp2
      go_round
      case rel => exact ⟨j + 1, by omega, by go_num, by rw [hstep.out]⟩
      case measure => simp [intOf]; omega
    · obtain rfl : j = k := by omega
      rw [HM.out]
      have hgt : ¬ ((n : Int) - j < m) := by omega
      go_wp2_with fail
      refine (znewWriter _).mono ?_
      rintro e w7 ⟨rfl, hw7, hf7⟩
      have hs7 := hf7.size
      have hlv := hdv6.len
      have hlr := hdr.len
      have hdv7 := hdv6.move (w' := w7) fun h => hf7.block _ (hdv6.lt h) (by simp)
      go_wp2_with fail
      refine (zbytesVector _ j w0.heap.size _ [] _ av m m _ hw7 hk hdv7 (fun h => ⟨by have := hl1 (by omega); omega, by simp [Value.ownBlock]⟩) (by rw [hlv]; exact HM4.out) (by simp; omega)).mono ?_
      rintro e w8 ⟨rfl, v8, hw8, hg8⟩
      have hs8 := hg8.size
      rw [hlv, List.nil_append] at hw8
      have hdr8 : Rd w8 w0.heap.size a4 (n - j - m) (n - j - m) ((xs.drop j).drop m) := hg8.rd (hdr.move fun h => hf7.block _ (hdr.lt h) (by simp)) (fun h => ⟨by have := hl1 (by omega); omega, by simp [Value.ownBlock]⟩)
      go_wp2_with fail
      refine (zbytes _ w0.heap.size v8 _ _ a4 (n - j - m) (n - j - m) _ hw8 hdr8 (by simp [be_length]; omega)).mono ?_
      rintro e w9 ⟨rfl, v9, hw9, hg9⟩
      rw [List.append_assoc, HB.out] at hw9
      have hs9 := hg9.size
      have hdo9 : Rd w9 w1.heap.size a2 n n xs := by
        refine hg9.rd (hg8.rd (hdo.move fun h => hf7.block _ (hdo.lt h) (by simp)) (fun h => ⟨by have := hl2 (by omega); omega, by simp [Value.ownBlock]⟩)) (fun h => ⟨by have := hl2 (by omega); omega, fun e => ?_⟩)
        rcases hg8.own _ e with h' | h'
        · simp [Value.ownBlock] at h'
        · have := hl2 (by omega); omega
      obtain ⟨b10, a10, c10, hv10, hd10, _⟩ := hw9.own.rd hw9.wf
      subst hv10
      rw [hlen] at hd10
      go_wp2_with fail
      refine (zout _ _ _ _ _ _ hw9).mono ?_
      rintro e w10 ⟨rfl, rfl⟩
      rw [hlen]
      go_wp2_with fail
      refine (equal_yes _ _ _ _ _ _ _ _ _ hd10 hdo9).mono ?_
      rintro e w11 ⟨rfl, hf11⟩
      go_wp2
      go_ret
      refine ⟨rfl, ?_⟩
      exact (((B.trans (hf7.below (by omega) (fun k hk => by cases hk))).trans (hg8.below (by omega) (by omega) (fun g hg => by simp [Value.ownBlock] at hg))).trans (hg9.below (by omega) (by omega) (fun g hg => by
        rcases hg8.own _ hg with h' | h'
        · simp [Value.ownBlock] at h'
        · omega))).trans (hf11.below (by omega) (fun k hk => by cases hk))

set_option maxHeartbeats 400000 in
theorem walk_big (a : Option Addr) (n c : Nat) (f : Bool) (k : Int) (w : World) (hn : 1048576 < n) :
    Calls Try.prog 3 #[.slice a n c, .bool f, .int .i64 k] w fun e w' => e = .returned (.bool true) ∧ Below w.heap.size w w' := by
  go_enter Try.func3, Try.ntmps3
  go_wp2_with fail
  refine (zzb10_no _ _ _ _ _ _ hn).mono ?_
  rintro e w0 ⟨rfl, rfl⟩
  go_wp2
  go_ret
  exact ⟨rfl, Below.refl _ _⟩

set_option maxHeartbeats 400000 in
theorem walk_out (a : Option Addr) (n c : Nat) (f : Bool) (k : Int) (w : World) (hn : n ≤ 1048576) (hk : k < 0 ∨ 3 < k) :
    Calls Try.prog 3 #[.slice a n c, .bool f, .int .i64 k] w fun e w' => e = .returned (.bool true) ∧ Below w.heap.size w w' := by
  have hn' : ¬ (1048576 : Int) < n := by omega
  rcases hk with hk | hk
  · go_enter Try.func3, Try.ntmps3
    go_wp2_with fail
    refine (zzb10_yes _ _ _ _ _ _ hn).mono ?_
    rintro e w0 ⟨rfl, rfl⟩
    go_wp2
    go_ret
    exact ⟨rfl, Below.refl _ _⟩
  · have hk1 : ¬ (k < 0) := by omega
    go_enter Try.func3, Try.ntmps3
    go_wp2_with fail
    refine (zzb10_yes _ _ _ _ _ _ hn).mono ?_
    rintro e w0 ⟨rfl, rfl⟩
    go_wp2
    go_ret
    exact ⟨rfl, Below.refl _ _⟩

theorem walk (a0 : Option Addr) (len0 cap0 : Nat) (z0 : List Int) (a1 : Bool) (a2 : Int) (w : World) (w0 : IsRow .u8 w a0 len0 cap0 z0) (w2 : (Lit.int .i64 a2).wf = true) :
    Calls Try.prog 3 #[.slice a0 len0 cap0, .bool a1, .int .i64 a2] w fun e w' => e = .returned (.bool true) ∧ Below w.heap.size w w' := by
  obtain ⟨b, hd, _⟩ := w0.rd
  by_cases hn : 1048576 < len0
  · exact walk_big _ _ _ _ _ _ hn
  · by_cases hk : a2 < 0 ∨ 3 < a2
    · exact walk_out _ _ _ _ _ _ (by omega) hk
    · obtain ⟨k, rfl⟩ := Int.eq_ofNat_of_zero_le (show 0 ≤ a2 by omega)
      by_cases hbad : a1 = true ∨ len0 < k
      · exact walk_bad k b _ _ _ _ _ _ hd (by omega) (by omega) hbad
      · have hf : a1 = false := by cases a1 with | true => exact absurd (.inl rfl) hbad | false => rfl
        subst hf
        have hkn : k ≤ len0 := by omega
        obtain ⟨m, hm⟩ := Int.eq_ofNat_of_zero_le (beV_bound ((z0.take len0).take k) (fun x hx => hd.wf x (List.mem_of_mem_take hx))).1
        by_cases hmn : k + m ≤ len0
        · exact walk_ok k b m _ _ _ _ _ hd (by omega) (by omega) hkn hm hmn
        · exact walk_long k b m _ _ _ _ _ hd (by omega) (by omega) hkn hm (by omega)
end Go.Proofs.Qxb6615713a.fnReaderVectorParseThenWriteGivesBack
