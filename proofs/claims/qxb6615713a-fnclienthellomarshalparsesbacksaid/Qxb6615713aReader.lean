import Derived.Test.Qxb6615713aParts
namespace Go.Proofs.Qxb6615713a
open Go.RowKit
set_option linter.unusedSimpArgs false
set_option linter.unusedVariables false

set_option maxHeartbeats 400000 in
theorem take_failed (r k : Nat) (a : Option Addr) (n c : Nat) (w : World) (hr : RdrAt w r a n c true) :
    Calls Try.prog 68 #[.pointer (some ⟨r, 0, none⟩), .int .i64 k] w fun e w' => e = .returned (.slice none 0 0) ∧ RdrAt w' r a n c true ∧ Fr [r] w w' := by
  have c0 := two_cell0 hr
  have c1 := two_cell1 hr
  have f0 : w.frozen? ⟨r, 0, none⟩ = false := two_free hr
  have f1 : w.frozen? ⟨r, 1, none⟩ = false := two_free hr
  go_enter Try.func68, Try.ntmps68
  go_wp2
  go_ret
  exact ⟨rfl, two_set1 hr, Fr.setCell _ _ _ (by simp)⟩

set_option maxHeartbeats 400000 in
theorem take_short (r k : Nat) (a : Option Addr) (n c : Nat) (w : World) (hr : RdrAt w r a n c false) (hk : n < k) :
    Calls Try.prog 68 #[.pointer (some ⟨r, 0, none⟩), .int .i64 k] w fun e w' => e = .returned (.slice none 0 0) ∧ RdrAt w' r a n c true ∧ Fr [r] w w' := by
  have c0 := two_cell0 hr
  have c1 := two_cell1 hr
  have f0 : w.frozen? ⟨r, 0, none⟩ = false := two_free hr
  have f1 : w.frozen? ⟨r, 1, none⟩ = false := two_free hr
  have hkn : ((n : Int) < k) := by omega
  go_enter Try.func68, Try.ntmps68
  go_wp2
  go_ret
  exact ⟨rfl, two_set1 hr, Fr.setCell _ _ _ (by simp)⟩

set_option maxHeartbeats 400000 in
theorem take_ok (r k b : Nat) (a : Option Addr) (n c : Nat) (xs : List Int) (w : World) (hr : RdrAt w r a n c false) (hd : Rd w b a n c xs) (hk : k ≤ n) :
    Calls Try.prog 68 #[.pointer (some ⟨r, 0, none⟩), .int .i64 k] w fun e w' => ∃ a1, e = .returned (.slice a1 k k) ∧ Rd w b a1 k k (xs.take k) ∧ ∃ a2, RdrAt w' r a2 (n - k) (c - k) false ∧ Rd w b a2 (n - k) (c - k) (xs.drop k) ∧ Fr [r] w w' := by
  have c0 := two_cell0 hr
  have c1 := two_cell1 hr
  have f0 : w.frozen? ⟨r, 0, none⟩ = false := two_free hr
  have f1 : w.frozen? ⟨r, 1, none⟩ = false := two_free hr
  have hcap := hd.cap
  have hmax := hd.max
  unfold maxLen at hmax
  have hkn : ¬ ((n : Int) < k) := by omega
  by_cases hck : c = k
  · obtain rfl : n = k := by omega
    obtain rfl : c = n := hck
    go_enter Try.func68, Try.ntmps68
    go_wp2
    go_ret
    exact ⟨a, rfl, hd.take hk, a, two_set0 hr, by simpa using hd.drop_end hk rfl, Fr.setCell _ _ _ (by simp)⟩
  · go_enter Try.func68, Try.ntmps68
    go_wp2
    go_ret
    exact ⟨a, rfl, hd.take hk, _, two_set0 hr, hd.drop hk, Fr.setCell _ _ _ (by simp)⟩
set_option maxHeartbeats 400000 in
theorem uint_ok (r k b : Nat) (a : Option Addr) (n c : Nat) (xs : List Int) (w : World) (hr : RdrAt w r a n c false) (hd : Rd w b a n c xs) (hk : k ≤ n) (hb : 0 < n → b ≠ r) (hk3 : k ≤ 3) :
    Calls Try.prog 67 #[.pointer (some ⟨r, 0, none⟩), .int .i64 k] w fun e w' => e = .returned (.int .u32 (beV (xs.take k))) ∧ ∃ a2, RdrAt w' r a2 (n - k) (c - k) false ∧ Rd w b a2 (n - k) (c - k) (xs.drop k) ∧ Fr [r] w w' := by
  by_cases hk0 : k = 0
  · subst hk0
    go_enter Try.func67, Try.ntmps67
    go_wp2_with fail
    refine (take_ok r 0 b a n c xs _ hr hd hk).mono ?_
    rintro e w1 ⟨a1, rfl, hd1, a2, hr1, hd2, hfr⟩
    go_wp2_with fail
    refine wp_loop_rounds 1 ?_
    rw [rounds_succ]
    go_wp2
    go_ret
    exact ⟨rfl, a2, hr1, hd2, hfr⟩
  · go_enter Try.func67, Try.ntmps67
    go_wp2_with fail
    refine (take_ok r k b a n c xs _ hr hd hk).mono ?_
    rintro e w1 ⟨a1, rfl, hd1, a2, hr1, hd2, hfr⟩
    obtain ⟨o, ha1, hcell⟩ := hd1.cell (by omega)
    have hblk : w1.heap[b]? = w.heap[b]? := hfr.block b (hd1.lt (by omega)) (by have := hb (by omega); simp; omega)
    have hcell1 : ∀ j, j < k → w1.cell? ⟨b, o + j, none⟩ = some (.int .u8 ((xs.take k).getD j 0)) := fun j hj => (World.cell?_of_block (w := w) hblk).trans (hcell j hj)
    rw [ha1]
    have hwf := hd1.wf
    have hlen := hd1.len
    obtain ⟨ys, hys⟩ : ∃ ys, ys = xs.take k := ⟨_, rfl⟩
    have HY : Hid (ys = xs.take k) := hys
    rw [← hys] at hcell1 hwf hlen
    clear hcell hys hd1 ha1
    go_wp2_with fail
    go_loop [5, 12] (fun v i => ∃ j : Nat, j ≤ k ∧ i = .int .i64 j ∧ v = .int .u32 (beV (ys.take j))) (fun _ i => k - (intOf i).toNat)
    case atStart => exact ⟨0, Nat.zero_le _, rfl, rfl⟩
    case round =>
      obtain ⟨j, hj, rfl, rfl⟩ := hrel
      by_cases hlt : j < k
      · have hcj := hcell1 j hlt
        clear hcell1
        have hB := beV_bound (ys.take j) (fun x hx => hwf x (List.mem_of_mem_take hx))
        have hB2 : beV (ys.take j) < 16777216 := by
          have hl : (ys.take j).length ≤ 2 := by simp; omega
          have hp : (256 : Int) ^ (ys.take j).length ≤ 65536 := by
            generalize (ys.take j).length = m at hl
            match m, hl with
            | 0, _ => decide
            | 1, _ => decide
            | 2, _ => decide
          omega
        have hg := getD_bound hwf j
        have hstep : Hid (beV (ys.take (j + 1)) = bits BinOp.or IntKind.u32 (beV (ys.take j) * 256 % 4294967296) (ys.getD j 0 % 4294967296)) := by
          show _ = _
          rw [take_snoc (by omega), beV_snoc, u32_or_byte _ _ hB.1 hB2 hg.1 hg.2]
        clear hB hB2 hg hwf
        generalize ys.getD j 0 = x at hcj hstep
        go_wp2
        go_round
        case rel => exact ⟨j + 1, by omega, by go_num, by rw [hstep.out]⟩
        case measure => simp [intOf]; omega
      · go_wp2
        go_ret
        obtain rfl : j = k := by omega
        refine ⟨?_, a2, hr1, hd2, hfr⟩
        have e : ys.take j = xs.take j := by rw [List.take_of_length_le (by omega), HY.out]
        rw [← e]
        rfl

set_option maxHeartbeats 400000 in
theorem uint_bad (r k : Nat) (a : Option Addr) (n c : Nat) (f : Bool) (w : World) (hr : RdrAt w r a n c f) (hk : f = true ∨ n < k) :
    Calls Try.prog 67 #[.pointer (some ⟨r, 0, none⟩), .int .i64 k] w fun e w' => e = .returned (.int .u32 0) ∧ RdrAt w' r a n c true ∧ Fr [r] w w' := by
  have key : Calls Try.prog 68 #[.pointer (some ⟨r, 0, none⟩), .int .i64 k] w fun e w' => e = .returned (.slice none 0 0) ∧ RdrAt w' r a n c true ∧ Fr [r] w w' := by
    cases f with
    | true => exact take_failed r k a n c w hr
    | false => exact take_short r k a n c w hr (by simpa using hk)
  go_enter Try.func67, Try.ntmps67
  go_wp2_with fail
  refine key.mono ?_
  rintro e w1 ⟨rfl, hr1, hfr⟩
  go_wp2_with fail
  refine wp_loop_rounds 1 ?_
  rw [rounds_succ]
  go_wp2
  go_ret
  exact ⟨rfl, hr1, hfr⟩

set_option maxHeartbeats 400000 in
theorem vector_ok (r k m b : Nat) (a : Option Addr) (n c : Nat) (xs : List Int) (w : World) (hr : RdrAt w r a n c false) (hd : Rd w b a n c xs) (hk : k ≤ n) (hb : 0 < n → b ≠ r) (hk3 : k ≤ 3) (hm : beV (xs.take k) = m) (hmn : k + m ≤ n) :
    Calls Try.prog 45 #[.pointer (some ⟨r, 0, none⟩), .int .i64 k] w fun e w' => ∃ a1, e = .returned (.slice a1 m m) ∧ Rd w b a1 m m ((xs.drop k).take m) ∧ ∃ a2, RdrAt w' r a2 (n - k - m) (c - k - m) false ∧ Rd w b a2 (n - k - m) (c - k - m) ((xs.drop k).drop m) ∧ Fr [r] w w' := by
  have hmax := hd.max
  have hcap := hd.cap
  unfold maxLen at hmax
  have HM : Hid (beV (xs.take k) = m) := hm
  clear hm
  go_enter Try.func45, Try.ntmps45
  go_wp2_with fail
  refine (uint_ok r k b a n c xs _ hr hd hk hb hk3).mono ?_
  rintro e w1 ⟨rfl, a2, hr1, hd1, hfr⟩
  rw [HM.out]
  have hblk : 0 < n - k → w1.heap[b]? = w.heap[b]? := fun h => hfr.block b (hd.lt (by omega)) (by have := hb (by omega); simp; omega)
  have hd1' := hd1.move hblk
  go_wp2_with fail
  refine (take_ok r m b a2 (n - k) (c - k) _ _ hr1 hd1' (by omega)).mono ?_
  rintro e w2 ⟨a3, rfl, hd3, a4, hr4, hd4, hfr2⟩
  go_wp2
  go_ret
  have hblk2 : 0 < m → w.heap[b]? = w1.heap[b]? := fun h => (hblk (by omega)).symm
  have hblk4 : 0 < n - k - m → w.heap[b]? = w1.heap[b]? := fun h => (hblk (by omega)).symm
  exact ⟨a3, rfl, hd3.move hblk2, a4, hr4, hd4.move hblk4, hfr.trans hfr2⟩

set_option maxHeartbeats 400000 in
theorem vector_long (r k m b : Nat) (a : Option Addr) (n c : Nat) (xs : List Int) (w : World) (hr : RdrAt w r a n c false) (hd : Rd w b a n c xs) (hk : k ≤ n) (hb : 0 < n → b ≠ r) (hk3 : k ≤ 3) (hm : beV (xs.take k) = m) (hmn : n < k + m) (hm4 : m < 4294967296) :
    Calls Try.prog 45 #[.pointer (some ⟨r, 0, none⟩), .int .i64 k] w fun e w' => e = .returned (.slice none 0 0) ∧ ∃ a2, RdrAt w' r a2 (n - k) (c - k) true ∧ Rd w b a2 (n - k) (c - k) (xs.drop k) ∧ Fr [r] w w' := by
  have hmax := hd.max
  have hcap := hd.cap
  unfold maxLen at hmax
  have HM : Hid (beV (xs.take k) = m) := hm
  clear hm
  go_enter Try.func45, Try.ntmps45
  go_wp2_with fail
  refine (uint_ok r k b a n c xs _ hr hd hk hb hk3).mono ?_
  rintro e w1 ⟨rfl, a2, hr1, hd1, hfr⟩
  rw [HM.out]
  go_wp2_with fail
  refine (take_short r m a2 (n - k) (c - k) _ hr1 (by omega)).mono ?_
  rintro e w2 ⟨rfl, hr4, hfr2⟩
  go_wp2
  go_ret
  exact ⟨rfl, a2, hr4, hd1, hfr.trans hfr2⟩

set_option maxHeartbeats 400000 in
theorem vector_bad (r k : Nat) (a : Option Addr) (n c : Nat) (f : Bool) (w : World) (hr : RdrAt w r a n c f) (hk : f = true ∨ n < k) :
    Calls Try.prog 45 #[.pointer (some ⟨r, 0, none⟩), .int .i64 k] w fun e w' => e = .returned (.slice none 0 0) ∧ RdrAt w' r a n c true ∧ Fr [r] w w' := by
  go_enter Try.func45, Try.ntmps45
  go_wp2_with fail
  refine (uint_bad r k a n c f _ hr hk).mono ?_
  rintro e w1 ⟨rfl, hr1, hfr⟩
  go_wp2_with fail
  refine (take_failed r 0 a n c _ hr1).mono ?_
  rintro e w2 ⟨rfl, hr4, hfr2⟩
  go_wp2
  go_ret
  exact ⟨rfl, hr4, hfr.trans hfr2⟩

/-! ### the exported wrappers -/
set_option maxHeartbeats 400000 in
theorem zvector_ok (r k m b : Nat) (a : Option Addr) (n c : Nat) (xs : List Int) (w : World) (hr : RdrAt w r a n c false) (hd : Rd w b a n c xs) (hk : k ≤ n) (hb : 0 < n → b ≠ r) (hk3 : k ≤ 3) (hm : beV (xs.take k) = m) (hmn : k + m ≤ n) :
    Calls Try.prog 13 #[.pointer (some ⟨r, 0, none⟩), .int .i64 k] w fun e w' => ∃ a1, e = .returned (.slice a1 m m) ∧ Rd w b a1 m m ((xs.drop k).take m) ∧ ∃ a2, RdrAt w' r a2 (n - k - m) (c - k - m) false ∧ Rd w b a2 (n - k - m) (c - k - m) ((xs.drop k).drop m) ∧ Fr [r] w w' := by
  have HM : Hid (beV (xs.take k) = m) := hm
  clear hm
  go_enter Try.func13, Try.ntmps13
  go_wp2_with fail
  refine (vector_ok r k m b a n c xs _ hr hd hk hb hk3 HM.out hmn).mono ?_
  rintro e w2 ⟨a3, rfl, hd3, a4, hr4, hd4, hfr2⟩
  go_wp2
  go_ret
  exact ⟨a3, rfl, hd3, a4, hr4, hd4, hfr2⟩

set_option maxHeartbeats 400000 in
theorem zvector_long (r k m b : Nat) (a : Option Addr) (n c : Nat) (xs : List Int) (w : World) (hr : RdrAt w r a n c false) (hd : Rd w b a n c xs) (hk : k ≤ n) (hb : 0 < n → b ≠ r) (hk3 : k ≤ 3) (hm : beV (xs.take k) = m) (hmn : n < k + m) (hm4 : m < 4294967296) :
    Calls Try.prog 13 #[.pointer (some ⟨r, 0, none⟩), .int .i64 k] w fun e w' => e = .returned (.slice none 0 0) ∧ ∃ a2, RdrAt w' r a2 (n - k) (c - k) true ∧ Rd w b a2 (n - k) (c - k) (xs.drop k) ∧ Fr [r] w w' := by
  have HM : Hid (beV (xs.take k) = m) := hm
  clear hm
  go_enter Try.func13, Try.ntmps13
  go_wp2_with fail
  refine (vector_long r k m b a n c xs _ hr hd hk hb hk3 HM.out hmn hm4).mono ?_
  rintro e w2 ⟨rfl, a4, hr4, hd4, hfr2⟩
  go_wp2
  go_ret
  exact ⟨rfl, a4, hr4, hd4, hfr2⟩

set_option maxHeartbeats 400000 in
theorem zvector_bad (r k : Nat) (a : Option Addr) (n c : Nat) (f : Bool) (w : World) (hr : RdrAt w r a n c f) (hk : f = true ∨ n < k) :
    Calls Try.prog 13 #[.pointer (some ⟨r, 0, none⟩), .int .i64 k] w fun e w' => e = .returned (.slice none 0 0) ∧ RdrAt w' r a n c true ∧ Fr [r] w w' := by
  go_enter Try.func13, Try.ntmps13
  go_wp2_with fail
  refine (vector_bad r k a n c f _ hr hk).mono ?_
  rintro e w2 ⟨rfl, hr4, hfr2⟩
  go_wp2
  go_ret
  exact ⟨rfl, hr4, hfr2⟩

set_option maxHeartbeats 400000 in
theorem zuint_ok (r k b : Nat) (a : Option Addr) (n c : Nat) (xs : List Int) (w : World) (hr : RdrAt w r a n c false) (hd : Rd w b a n c xs) (hk : k ≤ n) (hb : 0 < n → b ≠ r) (hk3 : k ≤ 3) :
    Calls Try.prog 27 #[.pointer (some ⟨r, 0, none⟩), .int .i64 k] w fun e w' => e = .returned (.int .u32 (beV (xs.take k))) ∧ ∃ a2, RdrAt w' r a2 (n - k) (c - k) false ∧ Rd w b a2 (n - k) (c - k) (xs.drop k) ∧ Fr [r] w w' := by
  go_enter Try.func27, Try.ntmps27
  go_wp2_with fail
  refine (uint_ok r k b a n c xs _ hr hd hk hb hk3).mono ?_
  rintro e w2 ⟨rfl, a4, hr4, hd4, hfr2⟩
  go_wp2
  go_ret
  exact ⟨rfl, a4, hr4, hd4, hfr2⟩

set_option maxHeartbeats 400000 in
theorem ztake_ok (r k b : Nat) (a : Option Addr) (n c : Nat) (xs : List Int) (w : World) (hr : RdrAt w r a n c false) (hd : Rd w b a n c xs) (hk : k ≤ n) :
    Calls Try.prog 28 #[.pointer (some ⟨r, 0, none⟩), .int .i64 k] w fun e w' => ∃ a1, e = .returned (.slice a1 k k) ∧ Rd w b a1 k k (xs.take k) ∧ ∃ a2, RdrAt w' r a2 (n - k) (c - k) false ∧ Rd w b a2 (n - k) (c - k) (xs.drop k) ∧ Fr [r] w w' := by
  go_enter Try.func28, Try.ntmps28
  go_wp2_with fail
  refine (take_ok r k b a n c xs _ hr hd hk).mono ?_
  rintro e w2 ⟨a3, rfl, hd3, a4, hr4, hd4, hfr2⟩
  go_wp2
  go_ret
  exact ⟨a3, rfl, hd3, a4, hr4, hd4, hfr2⟩

set_option maxHeartbeats 400000 in
theorem zrest (r : Nat) (a : Option Addr) (n c : Nat) (f : Bool) (w : World) (hr : RdrAt w r a n c f) :
    Calls Try.prog 14 #[.pointer (some ⟨r, 0, none⟩)] w fun e w' => e = .returned (.slice a n c) ∧ w' = w := by
  have c0 := two_cell0 hr
  go_enter Try.func14, Try.ntmps14
  go_wp2
  go_ret
  exact ⟨rfl, rfl⟩

set_option maxHeartbeats 400000 in
theorem zfailed (r : Nat) (a : Option Addr) (n c : Nat) (f : Bool) (w : World) (hr : RdrAt w r a n c f) :
    Calls Try.prog 15 #[.pointer (some ⟨r, 0, none⟩)] w fun e w' => e = .returned (.bool f) ∧ w' = w := by
  have c1 := two_cell1 hr
  go_enter Try.func15, Try.ntmps15
  go_wp2
  go_ret
  exact ⟨rfl, rfl⟩

set_option maxHeartbeats 400000 in
theorem znewReader (a : Option Addr) (n c : Nat) (f : Bool) (w : World) :
    Calls Try.prog 12 #[.slice a n c, .bool f] w fun e w' => e = .returned (.pointer (some ⟨w.heap.size, 0, none⟩)) ∧ RdrAt w' w.heap.size a n c f ∧ Fr [] w w' := by
  go_enter Try.func12, Try.ntmps12
  go_wp2
  go_ret
  exact ⟨rfl, heap_alloc_new w _, Fr.alloc _ _ _⟩

end Go.Proofs.Qxb6615713a
