/- THE WALKS of Marshal's closures, second part. -/
import Derived.Test.Qxb6615713aMarshalA
import Derived.Laws.IdiomStrings
namespace Go.Proofs.Qxb6615713a
open Go.RowKit
set_option linter.unusedSimpArgs false
set_option linter.unusedVariables false

theorem ent51 : Ent 51 := ent_of Try.func51 (by kernel_rfl) rfl
theorem ent52 : Ent 52 := ent_of Try.func52 (by kernel_rfl) rfl
theorem ent54 : Ent 54 := ent_of Try.func54 (by kernel_rfl) rfl
theorem ent55 : Ent 55 := ent_of Try.func55 (by kernel_rfl) rfl
theorem ent57 : Ent 57 := ent_of Try.func57 (by kernel_rfl) rfl
theorem ent58 : Ent 58 := ent_of Try.func58 (by kernel_rfl) rfl
theorem ent59 : Ent 59 := ent_of Try.func59 (by kernel_rfl) rfl
theorem ent60 : Ent 60 := ent_of Try.func60 (by kernel_rfl) rfl
theorem ent61 : Ent 61 := ent_of Try.func61 (by kernel_rfl) rfl
theorem ent62 : Ent 62 := ent_of Try.func62 (by kernel_rfl) rfl
theorem ent63 : Ent 63 := ent_of Try.func63 (by kernel_rfl) rfl
theorem ent64 : Ent 64 := ent_of Try.func64 (by kernel_rfl) rfl
theorem ent65 : Ent 65 := ent_of Try.func65 (by kernel_rfl) rfl
theorem ent75 : Ent 75 := ent_of Try.func75 (by kernel_rfl) rfl

set_option maxHeartbeats 400000 in
theorem fill57 (p N q : Nat) (m : CH) (v : Value) (xs : List Int) (w : World) (hE : Env w p N q m) (h : WrAt w p v xs) (hv : Above p v) (hfit : 2 * m.sv.length ≤ 255) (hsz : xs.length ≤ 1099000000000) :
    Calls Try.prog 57 #[.pointer (some ⟨p, 0, none⟩), .pointer (some ⟨N, 0, none⟩)] w fun e w' => e = .returned (.tuple #[]) ∧ ∃ v', WrAt w' p v' (xs ++ vec 1 (u16s m.sv)) ∧ WFr p v v' w w' := by
  have hplt := h.lt
  go_enter Try.func57, Try.ntmps57
  go_wp2_with fail
  refine (wvector p 1 58 #[.pointer (some ⟨N, 0, none⟩)] v xs (u16s m.sv) _ ent58 h (by omega) (by rw [u16s_length]; simp; omega) (by rw [u16s_length]; omega) ?_).mono ?_
  · intro w1 v1 h1 hw1
    refine (fill58 p N q m v1 _ w1 (hE.below (hw1.low hplt hv)) h1 (hw1.above hplt hv) (by simp; omega)).mono ?_
    rintro e w2 ⟨rfl, v2, h2, hw2⟩
    exact ⟨rfl, v2, h2, hw2⟩
  · rintro e w1 ⟨rfl, v1, h1, hw1⟩
    go_wp2
    go_end0
    exact ⟨rfl, v1, by rw [List.append_assoc] at h1; exact h1, hw1⟩

set_option maxHeartbeats 400000 in
theorem fill59 (p N q : Nat) (m : CH) (v : Value) (xs : List Int) (w : World) (hE : Env w p N q m) (h : WrAt w p v xs) (hv : Above p v) (hfit : 2 * m.sg.length ≤ 65535) (hsz : xs.length ≤ 1099000000000) :
    Calls Try.prog 59 #[.pointer (some ⟨p, 0, none⟩), .pointer (some ⟨N, 0, none⟩)] w fun e w' => e = .returned (.tuple #[]) ∧ ∃ v', WrAt w' p v' (xs ++ vec 2 (u16s m.sg)) ∧ WFr p v v' w w' := by
  have hplt := h.lt
  go_enter Try.func59, Try.ntmps59
  go_wp2_with fail
  refine (wvector p 2 60 #[.pointer (some ⟨N, 0, none⟩)] v xs (u16s m.sg) _ ent60 h (by omega) (by rw [u16s_length]; simp; omega) (by rw [u16s_length]; omega) ?_).mono ?_
  · intro w1 v1 h1 hw1
    refine (fill60 p N q m v1 _ w1 (hE.below (hw1.low hplt hv)) h1 (hw1.above hplt hv) (by simp; omega)).mono ?_
    rintro e w2 ⟨rfl, v2, h2, hw2⟩
    exact ⟨rfl, v2, h2, hw2⟩
  · rintro e w1 ⟨rfl, v1, h1, hw1⟩
    go_wp2
    go_end0
    exact ⟨rfl, v1, by rw [List.append_assoc] at h1; exact h1, hw1⟩

set_option maxHeartbeats 400000 in
theorem fill61 (p N q : Nat) (m : CH) (v : Value) (xs : List Int) (w : World) (hE : Env w p N q m) (h : WrAt w p v xs) (hv : Above p v) (hfit : 2 * m.ss.length ≤ 65535) (hsz : xs.length ≤ 1099000000000) :
    Calls Try.prog 61 #[.pointer (some ⟨p, 0, none⟩), .pointer (some ⟨N, 0, none⟩)] w fun e w' => e = .returned (.tuple #[]) ∧ ∃ v', WrAt w' p v' (xs ++ vec 2 (u16s m.ss)) ∧ WFr p v v' w w' := by
  have hplt := h.lt
  go_enter Try.func61, Try.ntmps61
  go_wp2_with fail
  refine (wvector p 2 62 #[.pointer (some ⟨N, 0, none⟩)] v xs (u16s m.ss) _ ent62 h (by omega) (by rw [u16s_length]; simp; omega) (by rw [u16s_length]; omega) ?_).mono ?_
  · intro w1 v1 h1 hw1
    refine (fill62 p N q m v1 _ w1 (hE.below (hw1.low hplt hv)) h1 (hw1.above hplt hv) (by simp; omega)).mono ?_
    rintro e w2 ⟨rfl, v2, h2, hw2⟩
    exact ⟨rfl, v2, h2, hw2⟩
  · rintro e w1 ⟨rfl, v1, h1, hw1⟩
    go_wp2
    go_end0
    exact ⟨rfl, v1, by rw [List.append_assoc] at h1; exact h1, hw1⟩

/-- The block that '[]byte(s)' lays reads as the string's bytes. -/
theorem rd_bytes (w : World) (s : ByteArray) (cap : Nat) (f : Nat × Nat) (h : s.size ≤ cap) (hm : cap ≤ maxLen) : Rd (w.alloc (.cells (bytesRow s cap) 5 f)) w.heap.size (some ⟨w.heap.size, 0, none⟩) s.size cap (nmB s) := by
  refine ⟨nmB_length s, h, hm, fun e => by simp at e, fun h0 => ⟨0, rfl, fun j hj => ?_⟩, nmB_wf s⟩
  have hg : (w.alloc (.cells (bytesRow s cap) 5 f)).heap[w.heap.size]? = some (.cells (bytesRow s cap) 5 f) := heap_alloc_new w _
  rw [Nat.zero_add, cell_of_row _ _ _ _ _ _ hg]
  have hj' : j < s.data.size := hj
  simp only [bytesRow, nmB, List.getD, Array.getElem?_append, Array.size_map, List.getElem?_map, Array.getElem?_map, Array.getElem?_toList]
  rw [if_pos hj', Array.getElem?_eq_getElem hj']
  rfl

set_option maxHeartbeats 400000 in
theorem fill55 (p N q : Nat) (m : CH) (v : Value) (xs : List Int) (w : World) (hE : Env w p N q m) (h : WrAt w p v xs) (hv : Above p v) (hfit : m.nm.size ≤ 65535) (hsz : xs.length ≤ 1099000000000) :
    Calls Try.prog 55 #[.pointer (some ⟨p, 0, none⟩), .pointer (some ⟨N, 0, none⟩)] w fun e w' => e = .returned (.tuple #[]) ∧ ∃ v', WrAt w' p v' (xs ++ ([0] ++ vec 2 (nmB m.nm))) ∧ WFr p v v' w w' := by
  have hplt := h.lt
  go_enter Try.func55, Try.ntmps55
  go_wp2_with fail
  refine (wu8 p v xs 0 _ h (by omega) (by omega)).mono ?_
  rintro e w1 ⟨rfl, v1, h1, hw1⟩
  have hE1 := hE.below (hw1.low hplt hv)
  have cN := cell_of_one hE1.box
  have cq := hE1.hello.nm
  have hcv := run_bytes_of_string (P := Try.prog) w1 9 22 5 m.nm Try.underlying9 Try.underlying22 Try.underlying5
  have hp1 := h1.lt
  have hge := grownCap_ge w1 m.nm.size 0 5
  have hle := grownCap_le_maxLen w1 m.nm.size 0 5 (by unfold maxLen; omega)
  generalize grownCap w1 m.nm.size 0 5 = C at *
  have hd := rd_bytes w1 m.nm C ((bytesRow m.nm C).size, (bytesRow m.nm C).size + 1) hge hle
  go_wp2_with fail
  refine (wbytesVector p 2 w1.heap.size v1 _ (nmB m.nm) _ _ _ _ (h1.alloc _).drew (by omega) (hd.move fun _ => rfl) (fun _ => ⟨by omega, fun e => by have := h1.own.lt e; omega⟩) (by rw [nmB_length]; simp; omega) (by rw [nmB_length]; simp; omega)).mono ?_
  rintro e w2 ⟨rfl, v2, h2, hw2⟩
  go_wp2
  go_end0
  exact ⟨rfl, v2, by simpa [vec] using h2, (hw1.trans (WFr.alloc _ _ _ _).drew).trans hw2⟩

set_option maxHeartbeats 400000 in
theorem fill54 (p N q : Nat) (m : CH) (v : Value) (xs : List Int) (w : World) (hE : Env w p N q m) (h : WrAt w p v xs) (hv : Above p v) (hfit : m.nm.size ≤ 65532) (hsz : xs.length ≤ 1098000000000) :
    Calls Try.prog 54 #[.pointer (some ⟨p, 0, none⟩), .pointer (some ⟨N, 0, none⟩)] w fun e w' => e = .returned (.tuple #[]) ∧ ∃ v', WrAt w' p v' (xs ++ sniB m) ∧ WFr p v v' w w' := by
  have hplt := h.lt
  have hl : ([0] ++ vec 2 (nmB m.nm)).length = 3 + m.nm.size := by simp [vec_length, nmB_length]; omega
  go_enter Try.func54, Try.ntmps54
  go_wp2_with fail
  refine (wvector p 2 55 #[.pointer (some ⟨N, 0, none⟩)] v xs ([0] ++ vec 2 (nmB m.nm)) _ ent55 h (by omega) (by rw [hl]; simp; omega) (by rw [hl]; omega) ?_).mono ?_
  · intro w1 v1 h1 hw1
    refine (fill55 p N q m v1 _ w1 (hE.below (hw1.low hplt hv)) h1 (hw1.above hplt hv) (by omega) (by simp; omega)).mono ?_
    rintro e w2 ⟨rfl, v2, h2, hw2⟩
    exact ⟨rfl, v2, h2, hw2⟩
  · rintro e w1 ⟨rfl, v1, h1, hw1⟩
    go_wp2
    go_end0
    exact ⟨rfl, v1, by rw [List.append_assoc] at h1; exact h1, hw1⟩

set_option maxHeartbeats 400000 in
theorem fill65 (p N q : Nat) (m : CH) (v : Value) (xs : List Int) (w : World) (hE : Env w p N q m) (h : WrAt w p v xs) (hv : Above p v) (hfit : m.ck.length ≤ 65535) (hsz : xs.length ≤ 1099000000000) :
    Calls Try.prog 65 #[.pointer (some ⟨p, 0, none⟩), .pointer (some ⟨N, 0, none⟩)] w fun e w' => e = .returned (.tuple #[]) ∧ ∃ v', WrAt w' p v' (xs ++ vec 2 m.ck) ∧ WFr p v v' w w' := by
  have cN := cell_of_one hE.box
  obtain ⟨a, n, c, b, cq, hd, hb⟩ := hE.hello.ck
  go_enter Try.func65, Try.ntmps65
  go_wp2_with fail
  refine (wbytesVector p 2 b v xs m.ck a n c _ h (by omega) hd (fun hn => ⟨by have := hb hn; omega, fun e => by have := hv _ e; have := hb hn; omega⟩) (by simp; omega) (by omega)).mono ?_
  rintro e w1 ⟨rfl, v1, h1, hw1⟩
  go_wp2
  go_end0
  exact ⟨rfl, v1, by rw [List.append_assoc] at h1; exact h1, hw1⟩

set_option maxHeartbeats 400000 in
theorem fill75 (p k b : Nat) (v : Value) (xs ys : List Int) (a : Option Addr) (n c : Nat) (w : World) (h : WrAt w p v xs) (hk : w.heap[k]? = some (.cells #[.slice a n c] 22 (0, 0))) (hd : Rd w b a n c ys) (hb : 0 < n → b ≠ p ∧ v.ownBlock ≠ some b) (hfit : ys.length ≤ 255) (hsz : xs.length ≤ 1099000000000) :
    Calls Try.prog 75 #[.pointer (some ⟨p, 0, none⟩), .pointer (some ⟨k, 0, none⟩)] w fun e w' => e = .returned (.tuple #[]) ∧ ∃ v', WrAt w' p v' (xs ++ vec 1 ys) ∧ WFr p v v' w w' := by
  have c0 := cell_of_one hk
  go_enter Try.func75, Try.ntmps75
  go_wp2_with fail
  refine (wbytesVector p 1 b v xs ys a n c _ h (by omega) hd hb (by simp; omega) (by omega)).mono ?_
  rintro e w1 ⟨rfl, v1, h1, hw1⟩
  go_wp2
  go_end0
  exact ⟨rfl, v1, by rw [List.append_assoc] at h1; exact h1, hw1⟩

set_option maxHeartbeats 400000 in
theorem wconnectionID (p b : Nat) (v : Value) (xs ys : List Int) (a : Option Addr) (n c : Nat) (w : World) (h : WrAt w p v xs) (hd : Rd w b a n c ys) (hb : 0 < n → b ≠ p ∧ v.ownBlock ≠ some b) (hfit : ys.length ≤ 255) (hsz : xs.length ≤ 1098000000000) :
    Calls Try.prog 66 #[.pointer (some ⟨p, 0, none⟩), .slice a n c] w fun e w' => e = .returned (.tuple #[]) ∧ ∃ v', WrAt w' p v' (xs ++ ext 54 (vec 1 ys)) ∧ WFr p v v' w w' := by
  have hlt := h.lt
  go_enter Try.func66, Try.ntmps66
  go_wp2_with fail
  refine (wextension p 75 54 #[.pointer (some ⟨w.heap.size, 0, none⟩)] v xs (vec 1 ys) _ ent75 (h.alloc _) (by omega) (by rw [vec_length]; omega) (by rw [vec_length]; omega) ?_).mono ?_
  · intro w1 v1 zs h1 hw1 hz
    have hk : w1.heap[w.heap.size]? = some (.cells #[.slice a n c] 22 (0, 0)) := by
      refine (hw1.block _ (by simp) (by omega) (fun e => ?_)).trans (heap_alloc_new w _)
      have := h.own.lt e
      omega
    have hd1 : Rd w1 b a n c ys := hw1.rd (hd.move fun hn => Below.heap_alloc _ _ _ (hd.lt hn)) hb
    refine (fill75 p w.heap.size b v1 zs ys a n c w1 h1 hk hd1 (fun hn => ⟨(hb hn).1, fun e => ?_⟩) hfit (by omega)).mono ?_
    · rcases hw1.own _ e with h' | h'
      · exact (hb hn).2 h'
      · have := hd.lt hn; simp at h'; omega
    · rintro e w2 ⟨rfl, v2, h2, hw2⟩
      exact ⟨rfl, v2, h2, hw2⟩
  · rintro e w1 ⟨rfl, v1, h1, hw1⟩
    go_wp2
    go_end0
    exact ⟨rfl, v1, h1, (WFr.alloc _ _ _ _).trans hw1⟩

set_option maxHeartbeats 800000 in
theorem fill64 (p N q : Nat) (m : CH) (v : Value) (xs : List Int) (w : World) (hE : Env w p N q m) (h : WrAt w p v xs) (hv : Above p v) (hfit : ksLen m.ks ≤ 65535) (hsz : xs.length ≤ 1099000000000) :
    Calls Try.prog 64 #[.pointer (some ⟨p, 0, none⟩), .pointer (some ⟨N, 0, none⟩)] w fun e w' => e = .returned (.tuple #[]) ∧ ∃ v', WrAt w' p v' (xs ++ ksB m.ks) ∧ WFr p v v' w w' := by
  have cN := cell_of_one hE.box
  obtain ⟨a, n, c, b, cq, hd⟩ := hE.hello.ks
  have hlen := hd.len
  have hcap := hd.cap
  have hmax := hd.max
  unfold maxLen at hmax
  have hplt := h.lt
  generalize m.ks = ys at *
  by_cases hn : n = 0
  · obtain rfl : ys = [] := List.length_eq_zero_iff.1 (hlen.trans hn)
    subst hn
    go_enter Try.func64, Try.ntmps64
    go_wp2_with fail
    refine wp_loop_rounds 1 ?_
    rw [rounds_succ]
    go_wp2
    go_end0
    exact ⟨rfl, v, by simpa [ksB] using h, WFr.refl _ _ _⟩
  · obtain ⟨o, rfl, hc⟩ := hd.cell (by omega)
    have hbp := hd.lt (by omega)
    have hwf := hd.wf
    have H0 : Hid (WrAt w p v xs) := h
    have HV : Hid (Above p v) := hv
    clear h hv hd hE
    go_enter Try.func64, Try.ntmps64
    go_wp2_with fail
    go_loopw [10] (fun i wr => ∃ j : Nat, j ≤ n ∧ i = .int .i64 j ∧ ∃ v1, WrAt wr p v1 (xs ++ ksB (ys.take j)) ∧ WFr p v v1 w wr) (fun i _ => n - (intOf i).toNat)
    case atStart => exact ⟨0, Nat.zero_le _, rfl, v, by simpa [ksB] using H0.out, WFr.refl _ _ _⟩
    case round =>
      obtain ⟨j, hj, rfl, v1, h1, hw1⟩ := hrel
      by_cases hlt : j < n
      · obtain ⟨c1, ka, kn, kc, kb, c2, hk, hkb⟩ := hc j hlt
        have B1 := hw1.low hplt HV.out
        replace c1 := (B1.cell (p := ⟨b, _, none⟩) hbp).trans c1
        replace c2 := (B1.cell (p := ⟨b, _, none⟩) hbp).trans c2
        clear hc
        obtain ⟨gx, hgx⟩ : ∃ x, x = ys.getD j (0, []) := ⟨_, rfl⟩
        have hgb : 0 ≤ gx.1 ∧ gx.1 ≤ 65535 := by
          rw [hgx]
          have := hwf (ys[j]'(by omega)) (List.getElem_mem _)
          simpa [List.getD, show j < ys.length by omega] using this
        have hs : Hid (ksB (ys.take (j + 1)) = ksB (ys.take j) ++ ([gx.1 / 256, gx.1 % 256] ++ vec 2 gx.2)) := by
          show _ = _
          rw [hgx, List.take_succ_eq_append_getElem (show j < ys.length by omega), ksB_snoc]
          simp [List.getD, show j < ys.length by omega]
        have hl : Hid (ksLen (ys.take j) + (4 + gx.2.length) ≤ 65535) := by
          show _ ≤ _
          rw [← ksB_length, hgx]
          have e2 : (ksB ys).length = (ksB (ys.take j)).length + (4 + (ys.getD j (0, [])).2.length) + (ksB (ys.drop (j + 1))).length := by
            have e0 : ys = ys.take j ++ [ys.getD j (0, [])] ++ ys.drop (j + 1) := by
              have : ys.take j ++ [ys.getD j (0, [])] = ys.take (j + 1) := by
                rw [List.take_succ_eq_append_getElem (show j < ys.length by omega)]
                simp [List.getD, show j < ys.length by omega]
              rw [this, List.take_append_drop]
            have e1 : ksB ys = ksB (ys.take j) ++ ksB [ys.getD j (0, [])] ++ ksB (ys.drop (j + 1)) := by
              conv => lhs; rw [e0]
              simp [ksB]
            rw [e1]
            simp only [List.length_append, ksB_length]
            simp [ksLen]
          rw [← ksB_length] at hfit
          omega
        have hL : Hid ((xs ++ ksB (ys.take j)).length ≤ 1099000065535) := by
          show _ ≤ _
          have := hl.out
          simp [ksB_length]
          omega
        rw [← hgx] at c1 hk
        obtain ⟨g1, g2⟩ := gx
        simp only at c1 hk hgb hs hl
        clear hgx
        go_wp2_with fail
        refine (wu16 p v1 _ g1 _ (h1.alloc _) hgb (by have := hL.out; omega)).mono ?_
        rintro e w2 ⟨rfl, v2, h2, hw2⟩
        have hp1 := h1.lt
        have hwr : w2.heap[wr.heap.size]? = some (.cells #[.int .u16 g1, .slice ka kn kc] 95 (0, 0)) := by
          refine (hw2.block _ (by simp) (by omega) (fun e => ?_)).trans (heap_alloc_new wr _)
          have := h1.own.lt e
          omega
        have d1 := two_cell1 hwr
        have hA1 := hw1.above hplt HV.out
        have hA2 := hw2.above (by simp; omega) hA1
        have B2 : Below p wr w2 := ((Below.refl p wr).alloc (by omega) _).trans (hw2.low (by simp; omega) hA1)
        have hk2 : Rd w2 kb ka kn kc g2 := hk.move fun hn => (B2.block kb (hkb hn)).trans (B1.block kb (hkb hn))
        have hk2l := hk2.len
        clear B1 B2 hA1 c1 c2 hk
        go_wp2_with fail
        refine (wbytesVector p 2 kb v2 _ g2 ka kn kc _ h2 (by omega) hk2 (fun hn => ⟨by have := hkb hn; omega, fun e => by have := hA2 _ e; have := hkb hn; omega⟩) (by have := hl.out; simp; omega) (by have := hL.out; have := hl.out; rw [List.length_append]; simp only [List.length_cons, List.length_nil]; omega)).mono ?_
        rintro e w3 ⟨rfl, v3, h3, hw3⟩
        go_wp2_with fail
        go_roundw
        case rel => exact ⟨j + 1, by omega, by go_num, v3, by rw [hs.out]; simpa [vec] using h3, ((hw1.trans (WFr.alloc _ _ _ _)).trans hw2).trans hw3⟩
        case measure => simp [intOf]; omega
      · obtain rfl : j = n := by omega
        go_wp2
        go_end0
        exact ⟨rfl, v1, by rw [List.take_of_length_le (by omega)] at h1; exact h1, hw1⟩
end Go.Proofs.Qxb6615713a
