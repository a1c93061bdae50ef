/- u16sInBytes, serverNameListHolds, keySharesHold: each answers true where the bytes are the encoding. -/
import Derived.Test.Qxb6615713aRg
import Derived.Deep.RegionHeld3
namespace Go.Proofs.Qxb6615713a
open Go.RowKit
set_option linter.unusedSimpArgs false
set_option linter.unusedVariables false

theorem Fr.drewN {S : List Nat} {a w : World} (h : Fr S a w) (n : Nat) : Fr S a (w.drewN n) := ⟨h.os, h.tape, h.output, h.size, h.block⟩
theorem getD16 {xs : List Int} (h : ∀ x ∈ xs, 0 ≤ x ∧ x ≤ 65535) (j : Nat) : 0 ≤ xs.getD j 0 ∧ xs.getD j 0 ≤ 65535 := by
  by_cases hj : j < xs.length
  · have := h (xs[j]) (List.getElem_mem hj)
    simpa [List.getD, hj] using this
  · simp [List.getD, hj]

theorem u16s_at (xs : List Int) : ∀ j, j < xs.length → (u16s xs).getD (2 * j) 0 = xs.getD j 0 / 256 ∧ (u16s xs).getD (2 * j + 1) 0 = xs.getD j 0 % 256 := by
  induction xs with
  | nil => intro j hj; simp at hj
  | cons x xs ih =>
    intro j hj
    cases j with
    | zero => simp [u16s]
    | succ j =>
      have := ih j (by simpa using hj)
      have e : u16s (x :: xs) = (x / 256) :: (x % 256) :: u16s xs := by simp [u16s]
      rw [e, show 2 * (j + 1) = 2 * j + 1 + 1 by omega]
      simpa using this

theorem u16_join (x : Int) (h0 : 0 ≤ x) (h1 : x ≤ 65535) : bits BinOp.or IntKind.u16 (x / 256 * 256) (x % 256) = x := by
  obtain ⟨n, rfl⟩ := Int.eq_ofNat_of_zero_le h0
  have e1 : ((n : Int) / 256 * 256).toNat = (n / 256) <<< 8 := by rw [Nat.shiftLeft_eq]; omega
  have e2 : ((n : Int) % 256).toNat = n % 256 := by omega
  rw [u16_or _ _ (by omega) (by omega) (by omega) (by omega), e1, e2, ← Nat.shiftLeft_add_eq_or_of_lt (by omega : n % 256 < 2 ^ 8), Nat.shiftLeft_eq]
  omega

set_option maxHeartbeats 1000000 in
theorem u16sIn (b1 b2 N : Nat) (a1 a2 : Option Addr) (n c1 c2 : Nat) (xs : List Int) (w : World) (h1 : Rd w b1 a1 N c1 (u16s xs)) (h2 : Rd16 w b2 a2 n c2 xs) :
    Calls Try.prog 29 #[.slice a1 N c1, .slice a2 n c2] w fun e w' => e = .returned (.bool true) ∧ Fr [] w w' := by
  have hcap1 := h1.cap
  have hmax1 := h1.max
  have hl1 := h1.len
  have hl2 := h2.len
  rw [u16s_length, hl2] at hl1
  subst hl1
  unfold maxLen at hmax1
  by_cases hn : n = 0
  · subst hn
    go_enter Try.func29, Try.ntmps29
    go_wp2
    refine wp_loop_rounds 1 ?_
    rw [rounds_succ]
    go_wp2
    go_ret
    exact ⟨rfl, Fr.refl _ _⟩
  · obtain ⟨o1, rfl, hc1⟩ := h1.cell (by omega)
    obtain ⟨o2, rfl, hc2⟩ := h2.cell (by omega)
    have hcap2 := h2.cap
    have hle : 0 < n := by omega
    have HW : Hid _ := h2.wf
    have HC1 : Hid _ := hc1
    have HC2 : Hid _ := hc2
    clear h1 h2 hc1 hc2
    go_enter Try.func29, Try.ntmps29
    go_wp2
    go_loopw [5] (fun i wr => ∃ j : Nat, j ≤ n ∧ i = .int .i64 j ∧ Fr [] w wr) (fun i _ => n - (intOf i).toNat)
    case atStart => exact ⟨0, Nat.zero_le _, rfl, Fr.refl _ _⟩
    case round =>
      obtain ⟨j, hj, rfl, hfr⟩ := hrel
      by_cases hlt : j < n
      · have e1 := (World.cell?_of_block (a := ⟨b1, o1 + 2 * j, none⟩) (hfr.block b1 (World.block_lt_of_cell? w _ (HC1.out (2 * j) (by omega))) (by simp))).trans (HC1.out (2 * j) (by omega))
        have e2 := (World.cell?_of_block (a := ⟨b1, o1 + (2 * j + 1), none⟩) (hfr.block b1 (World.block_lt_of_cell? w _ (HC1.out (2 * j + 1) (by omega))) (by simp))).trans (HC1.out (2 * j + 1) (by omega))
        have e3 := (World.cell?_of_block (a := ⟨b2, o2 + j, none⟩) (hfr.block b2 (World.block_lt_of_cell? w _ (HC2.out j hlt)) (by simp))).trans (HC2.out j hlt)
        obtain ⟨p1, p2⟩ := u16s_at xs j (by omega)
        rw [p1] at e1
        rw [p2] at e2
        have hx : 0 ≤ xs.getD j 0 ∧ xs.getD j 0 ≤ 65535 := getD16 HW.out j
        have HJ : Hid (bits BinOp.or IntKind.u16 (xs.getD j 0 / 256 * 256) (xs.getD j 0 % 256) = xs.getD j 0) := u16_join _ hx.1 hx.2
        clear p1 p2
        generalize xs.getD j 0 = x at e1 e2 e3 HJ hx
        go_wp2
        go_quiet (fail)
        rw [HJ.out]
        go_wp2
        go_roundw
        case rel => exact ⟨j + 1, by omega, by go_num, hfr.drewN _⟩
        case measure => simp [intOf]; omega
      · go_wp2
        go_ret
        exact ⟨rfl, hfr⟩

theorem nmB_at (s : ByteArray) (j : Nat) (h : j < s.size) : (nmB s).getD j 0 = ((s[j]'h).toNat : Int) := by
  have hl : j < s.data.size := h
  unfold nmB
  rw [List.getD, List.getElem?_map, Array.getElem?_toList, Array.getElem?_eq_getElem hl]
  rfl

set_option maxHeartbeats 1000000 in
theorem serverName (b N : Nat) (a : Option Addr) (c : Nat) (s : ByteArray) (w : World) (h : Rd w b a N c ([0] ++ vec 2 (nmB s))) (hs : s.size ≤ 65535) :
    Calls Try.prog 31 #[.slice a N c, .string s] w fun e w' => e = .returned (.bool true) ∧ Fr [] w w' := by
  go_enter Try.func31, Try.ntmps31
  go_wp2_with fail
  refine (rnew b a N c _ _ h).mono ?_
  rintro e w1 ⟨rfl, h1, hf1⟩
  go_wp2_with fail
  refine (ruint _ b 1 [0] _ _ h1 rfl (by omega)).mono ?_
  rintro e w2 ⟨rfl, h2, hf2⟩
  rw [show beV [0] = 0 from rfl]
  go_wp2_with fail
  refine (rvec _ b 2 s.size (nmB s) [] _ (by rw [List.append_nil]; exact h2) (nmB_length s) (by omega) (by rw [nmB_length]; omega)).mono ?_
  rintro e w3 ⟨a1, rfl, h3, h4, hf3, hne⟩
  go_wp2_with fail
  refine (rfailed _ _ _ _ h4).mono ?_
  rintro e w4 ⟨rfl, rfl⟩
  go_wp2_with fail
  refine (rrest _ _ _ _ h4).mono ?_
  rintro e w5 ⟨a4, c4, rfl, rfl⟩
  have FA : Hid (Fr [] w w5) := (hf1.nil hf2 (Nat.le_refl _)).nil hf3 (Nat.le_refl _)
  have H3 : Hid (Rd w5 b a1 s.size s.size (nmB s)) := h3
  clear h h1 h2 h3 h4 hf1 hf2 hf3 hne
  go_wp2_with fail
  go_loopw [7] (fun i wr => ∃ j : Nat, j ≤ s.size ∧ i = .int .i64 j ∧ Fr [] w wr ∧ Fr [] w5 wr) (fun i _ => s.size - (intOf i).toNat)
  case atStart => exact ⟨0, Nat.zero_le _, rfl, FA.out, Fr.refl _ _⟩
  case round =>
    obtain ⟨j, hj, rfl, hfr, hfr5⟩ := hrel
    by_cases hlt : j < s.size
    · obtain ⟨o, rfl, hc⟩ := H3.out.cell (by omega)
      have e1 := (World.cell?_of_block (a := ⟨b, o + j, none⟩) (hfr5.block b (World.block_lt_of_cell? w5 _ (hc j hlt)) (by simp))).trans (hc j hlt)
      rw [nmB_at s j hlt] at e1
      clear hc
      go_wp2
      go_quiet (fail)
      go_wp2
      go_roundw
      case rel => exact ⟨j + 1, by omega, by go_num, hfr.drewN _, hfr5.drewN _⟩
      case measure => simp [intOf]; omega
    · go_wp2
      go_ret
      exact ⟨rfl, hfr⟩

theorem ksB_at (l : List (Int × List Int)) (j : Nat) (h : j < l.length) : ksB (l.drop j) = [(l.getD j (0, [])).1 / 256, (l.getD j (0, [])).1 % 256] ++ (vec 2 (l.getD j (0, [])).2 ++ ksB (l.drop (j + 1))) := by
  have e : l.getD j (0, []) = l[j] := by simp [List.getD, h]
  rw [e, ksB, List.drop_eq_getElem_cons h, List.flatMap_cons, List.append_assoc]
  rfl

theorem beV_two (x : Int) (h0 : 0 ≤ x) : beV [x / 256, x % 256] = x := by
  simp only [beV, List.foldl_cons, List.foldl_nil]
  omega

theorem wrap_u32 (g : Int) (h0 : 0 ≤ g) (h1 : g ≤ 65535) : IntKind.u32.wrap g = g := by
  simp [IntKind.wrap, IntKind.signed, IntKind.bits]
  omega
theorem Rg.drew {w : World} {r b : Nat} {xs : List Int} (h : Rg w r b xs) : Rg w.drew r b xs := h.move rfl (fun _ => rfl)

set_option maxHeartbeats 2000000 in
theorem keyShares (p b b2 N : Nat) (a a2 : Option Addr) (n c c2 : Nat) (l : List (Int × List Int)) (w : World) (h : Rd w b a N c (ksB l)) (hk : RdKs w p b2 a2 n c2 l) (hp : p ≤ w.heap.size) (hs : ∀ x ∈ l, x.2.length ≤ 65535) :
    Calls Try.prog 32 #[.slice a N c, .slice a2 n c2] w fun e w' => e = .returned (.bool true) ∧ Fr [] w w' := by
  have HK : Hid (RdKs w p b2 a2 n c2 l) := hk
  have hcap := hk.cap
  have hmax := hk.max
  unfold maxLen at hmax
  clear hk
  go_enter Try.func32, Try.ntmps32
  go_wp2_with fail
  refine (rnew b a N c _ _ h).mono ?_
  rintro e w1 ⟨rfl, h1, hf1⟩
  have H1 : Hid (Rg w1 w.heap.size b (ksB l)) := h1
  have F1 : Hid (Fr [] w w1) := hf1
  have HS : Hid _ := hs
  clear h1 hf1 h hs
  go_wp2_with fail
  go_loopw [6] (fun i wr => ∃ j : Nat, j ≤ n ∧ i = .int .i64 j ∧ Fr [] w wr ∧ Rg wr w.heap.size b (ksB (l.drop j))) (fun i _ => n - (intOf i).toNat)
  case atStart => exact ⟨0, Nat.zero_le _, rfl, F1.out, H1.out⟩
  case round =>
    obtain ⟨j, hj, rfl, hfr, hr⟩ := hrel
    by_cases hlt : j < n
    · obtain ⟨o, rfl, hc⟩ := HK.out.cell (by omega)
      obtain ⟨e1, ka, kn, kc, kb, e2, e3, e4⟩ := hc j hlt
      have hl := HK.out.len
      rw [ksB_at l j (by omega)] at hr
      have hm : l.getD j (0, []) ∈ l := by
        have hj' : j < l.length := by omega
        simp [List.getD, hj']
      have hg := HK.out.wf _ hm
      have hq := HS.out _ hm
      have hb2 : b2 < w.heap.size := World.block_lt_of_cell? w _ e1
      have hbw : w.heap.size < wr.heap.size := hr.lt
      have E1 := (World.cell?_of_block (a := ⟨b2, o + j * 2, none⟩) (hfr.block b2 hb2 (by simp))).trans e1
      have E2 := (World.cell?_of_block (a := ⟨b2, o + j * 2 + 1, none⟩) (hfr.block b2 hb2 (by simp))).trans e2
      have E3 : Hid (Rd wr kb ka kn kc (l.getD j (0, [])).2) := e3.fr hfr
      have hkl := e3.len
      have KB : Hid (0 < kn → kb ≠ w.heap.size) := fun h0 => by have := e3.lt h0; omega
      generalize hgg : (l.getD j (0, [])).1 = g at *
      generalize hyy : (l.getD j (0, [])).2 = ys at *
      clear hgg hyy hm e1 e2 e3 e4 hc
      have HR : Hid (Rg wr w.heap.size b ([g / 256, g % 256] ++ (vec 2 ys ++ ksB (l.drop (j + 1))))) := hr
      have HBV : Hid (beV [g / 256, g % 256] = g) := beV_two g hg.1
      clear hr
      have HWR : Hid (IntKind.u32.wrap g = g) := wrap_u32 g hg.1 hg.2
      have hb3 : b2 ≠ w.heap.size := by omega
      have hb4 : b2 < wr.heap.size := by omega
      go_wp2_with fail
      go_region_held3 (fun w' => w'.cell? ⟨b2, o + j * 2, none⟩ = some (.int .u16 g)) (go_keep)
        (first | (go_at_call 27; refine (ruint w.heap.size b 2 [g / 256, g % 256] _ wr.drew (Rg.drew HR.out) rfl (by omega)).mono ?_; rintro e w2 ⟨rfl, h2, hf2⟩; have s1 := (World.cell?_of_block (a := ⟨b2, o + j * 2, none⟩) (hf2.block b2 hb4 (by simpa using hb3))).trans E1; have s2 := (World.cell?_of_block (a := ⟨b2, o + j * 2 + 1, none⟩) (hf2.block b2 hb4 (by simpa using hb3))).trans E2; have s3 : Hid (Rd w2 kb ka kn kc ys) := Rd.fr1 (Rd.move (w' := wr.drew) E3.out (fun _ => rfl)) hf2 KB.out; have s4 : Hid (Fr [] w w2) := Fr.nil hfr.drew hf2 (Nat.le_refl _); have s5 : Hid (Rg w2 w.heap.size b (vec 2 ys ++ ksB (l.drop (j + 1)))) := h2; clear h2 hf2; rw [HBV.out]))
      rw [HWR.out]
      have hb5 : b2 < w2.heap.size := World.block_lt_of_cell? w2 _ s1
      go_wp2_with fail
      go_region_held3 (fun w' => w'.cell? ⟨b2, o + j * 2 + 1, none⟩ = some (.slice ka kn kc)) (go_keep)
        (first
          | (go_at_call 13; refine (rvec w.heap.size b 2 kn ys (ksB (l.drop (j + 1))) w2.drew (Rg.drew s5.out) hkl (by omega) (by omega)).mono ?_; rintro e w3 ⟨a3, rfl, h3, h4, hf3, _⟩; have q1 := (World.cell?_of_block (a := ⟨b2, o + j * 2 + 1, none⟩) (hf3.block b2 hb5 (by simpa using hb3))).trans s2; have q2 : Hid (Rd w3 kb ka kn kc ys) := Rd.fr1 (Rd.move (w' := w2.drew) s3.out (fun _ => rfl)) hf3 KB.out; have q3 : Hid (Fr [] w w3) := Fr.nil s4.out.drew hf3 (Nat.le_refl _); have q4 : Hid (Rg w3 w.heap.size b (ksB (l.drop (j + 1)))) := h4; have q5 : Hid (Rd w3 b a3 kn kn ys) := h3; clear h3 h4 hf3)
          | (go_at_call 16; refine (equal_yes b kb a3 ka kn kn kc ys w3 q5.out q2.out).mono ?_; rintro e w4 ⟨rfl, hf4⟩; have t1 := (World.cell?_of_block (a := ⟨b2, o + j * 2 + 1, none⟩) (hf4.block b2 (World.block_lt_of_cell? w3 _ q1) (by simp))).trans q1; have t3 : Hid (Fr [] w w4) := q3.out.trans hf4; have t4 : Hid (Rg w4 w.heap.size b (ksB (l.drop (j + 1)))) := Rg.fr0 q4.out hf4; clear hf4))
      go_wp2_with fail
      go_roundw
      case rel => exact ⟨j + 1, by omega, by go_num, t3.out, t4.out⟩
      case measure => simp [intOf]; omega
    · obtain rfl : j = n := by omega
      have hl := HK.out.len
      rw [List.drop_of_length_le (by omega)] at hr
      go_wp2_with fail
      refine (rfailed _ _ _ _ hr).mono ?_
      rintro e w3 ⟨rfl, rfl⟩
      go_wp2_with fail
      refine (rrest _ _ _ _ hr).mono ?_
      rintro e w4 ⟨a4, c4, rfl, rfl⟩
      rw [show (ksB []).length = 0 from rfl]
      go_wp2_with fail
      go_ret
      exact ⟨rfl, hfr⟩
end Go.Proofs.Qxb6615713a
