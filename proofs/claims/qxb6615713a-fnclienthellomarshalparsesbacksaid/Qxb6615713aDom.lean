/- THE DOMAIN's FUNCTIONS: chExtBlockLen, chOutOfDomain. -/
import Derived.Test.Qxb6615713aBuild
namespace Go.Proofs.Qxb6615713a
open Go.RowKit
set_option linter.unusedSimpArgs false
set_option linter.unusedVariables false

theorem ret_int {k : IntKind} {a b : Int} (h : a = b) : Ending.returned (.int k a) = .returned (.int k b) := by rw [h]

theorem ksLen_bound (l : List (Int × List Int)) (K : Nat) (h : ∀ x ∈ l, 4 + x.2.length ≤ K) : ∀ j, ksLen (l.take j) ≤ j * K := by
  intro j
  induction j with
  | zero => simp [ksLen]
  | succ j ih =>
    by_cases hj : j < l.length
    · rw [List.take_succ_eq_append_getElem hj, ksLen_snoc, Nat.succ_mul]
      have := h _ (List.getElem_mem hj)
      omega
    · rw [List.take_of_length_le (by omega)] at ih ⊢
      rw [Nat.succ_mul]
      omega

set_option maxHeartbeats 2000000 in
set_option maxRecDepth 100000 in
theorem extBlockLen (Q p : Nat) (m : CH) (b : Bool) (w : World) (hH : HelloAt w p Q m) (hS : Small m) :
    Calls Try.prog 34 #[.pointer (some ⟨Q, 0, none⟩), .bool b] w fun e w' => e = .returned (.int .i64 (extLen m b)) ∧ w' = w := by
  have cn := hH.nm
  obtain ⟨va, vn, vc, vb, vq, vd, _⟩ := hH.sv
  obtain ⟨ga, gn, gc, gb, gq, gd, _⟩ := hH.sg
  obtain ⟨sa, sn, sc, sb, sq, sd, _⟩ := hH.ss
  obtain ⟨ka, kn, kc, kb, kq, kd⟩ := hH.ks
  obtain ⟨ca, cn', cc, cb, cq, cd, _⟩ := hH.ck
  obtain ⟨ia, in', ic, ib, iq, id, _⟩ := hH.cid
  have vl := vd.len
  have gl := gd.len
  have sl := sd.len
  have kl := kd.len
  have cl := cd.len
  have il := id.len
  have b1 := hS.sv
  have b2 := hS.sg
  have b3 := hS.ss
  have b4 := hS.ks
  have b5 := hS.ck
  have b6 := hS.cid
  have b7 := hS.nm
  rw [vl] at b1
  rw [gl] at b2
  rw [sl] at b3
  rw [kl] at b4
  rw [cl] at b5
  rw [il] at b6
  have KL : ∀ j, Hid (ksLen (m.ks.take j) ≤ j * 1048580) := fun j => ksLen_bound m.ks 1048580 (fun x hx => by have := hS.ksk x hx; omega) j
  have KS : ∀ j (hj : j < m.ks.length), Hid (ksLen (m.ks.take (j + 1)) = ksLen (m.ks.take j) + (4 + (m.ks.getD j (0, [])).2.length)) := by
    intro j hj
    show _ = _
    rw [List.take_succ_eq_append_getElem hj, ksLen_snoc]
    simp [List.getD, hj]
  have HE : Hid (extLen m b = (if m.nm.size = 0 then 0 else 9 + m.nm.size) + (5 + 2 * vn) + (6 + 2 * gn) + (6 + 2 * sn) + 6 + ksLen m.ks + (if cn' = 0 then 0 else 6 + cn') + (if b then 5 + in' else 0)) := by
    show _ = _
    unfold extLen
    rw [vl, gl, sl, cl, il]
  have HK : Hid (∀ x ∈ m.ks, x.2.length ≤ 1048576) := hS.ksk
  have HKD : Hid (RdKs w p kb ka kn kc m.ks) := kd
  clear hH hS vd gd sd kd cd id
  generalize extLen m b = E at *
  by_cases hn0 : m.nm.size = 0
  · have hnn : ¬ (0 : Int) < m.nm.size := by omega
    go_enter Try.func34, Try.ntmps34
    go_wp2_with fail
    go_loop [5, 6] (fun v i => ∃ j : Nat, j ≤ kn ∧ i = .int .i64 j ∧ v = .int .i64 (5 + 2 * (vn : Int) + (6 + 2 * gn) + (6 + 2 * sn) + 6 + ksLen (m.ks.take j))) (fun _ i => kn - (intOf i).toNat)
    case atStart => exact ⟨0, Nat.zero_le _, rfl, by simp [ksLen]⟩
    case round =>
      obtain ⟨j, hj, rfl, rfl⟩ := hrel
      have q1 := (KL j).out
      by_cases hlt : j < kn
      · obtain ⟨o, rfl, hc⟩ := HKD.out.cell (by omega)
        obtain ⟨c1, xa, xn, xc, xb, c2, xd, _⟩ := hc j hlt
        have hs := KS j (by omega)
        have xl := xd.len
        have xB : (m.ks.getD j (0, [])).2.length ≤ 1048576 := by
          have := HK.out (m.ks[j]'(by omega)) (List.getElem_mem _)
          simpa [List.getD, show j < m.ks.length by omega] using this
        rw [xl] at hs xB
        clear hc c1 xd xl HE
        generalize ksLen (m.ks.take j) = L at *
        go_wp2_with fail
        go_round
        case rel => exact ⟨j + 1, by omega, by go_num, by rw [hs.out]; go_num⟩
        case measure => simp [intOf]; omega
      · obtain rfl : j = kn := by omega
        rw [List.take_of_length_le (by omega)] at q1 ⊢
        by_cases hcn : cn' = 0
        · have hcc : ¬ (0 : Int) < cn' := by omega
          have HE2 : Hid (E = (if m.nm.size = 0 then 0 else 9 + m.nm.size) + (5 + 2 * vn) + (6 + 2 * gn) + (6 + 2 * sn) + 6 + ksLen m.ks + (if b then 5 + in' else 0)) := by have := HE.out; rw [if_pos hcn] at this; exact this
          clear HE
          generalize ksLen m.ks = L at *
          cases b with
          | false =>
            go_wp2
            go_ret
            exact ⟨ret_int (by rw [HE2.out]; simp [hn0]), rfl⟩
          | true =>
            go_wp2
            go_ret
            exact ⟨ret_int (by rw [HE2.out]; simp [hn0]), rfl⟩
        · have hcc : (0 : Int) < cn' := by omega
          have HE2 : Hid (E = (if m.nm.size = 0 then 0 else 9 + m.nm.size) + (5 + 2 * vn) + (6 + 2 * gn) + (6 + 2 * sn) + 6 + ksLen m.ks + (6 + cn') + (if b then 5 + in' else 0)) := by have := HE.out; rw [if_neg hcn] at this; exact this
          clear HE
          generalize ksLen m.ks = L at *
          cases b with
          | false =>
            go_wp2
            go_ret
            exact ⟨ret_int (by rw [HE2.out]; simp [hn0]), rfl⟩
          | true =>
            go_wp2
            go_ret
            exact ⟨ret_int (by rw [HE2.out]; simp [hn0]), rfl⟩
  · have hnn : (0 : Int) < m.nm.size := by omega
    go_enter Try.func34, Try.ntmps34
    go_wp2_with fail
    go_loop [5, 6] (fun v i => ∃ j : Nat, j ≤ kn ∧ i = .int .i64 j ∧ v = .int .i64 (9 + (m.nm.size : Int) + (5 + 2 * vn) + (6 + 2 * gn) + (6 + 2 * sn) + 6 + ksLen (m.ks.take j))) (fun _ i => kn - (intOf i).toNat)
    case atStart => exact ⟨0, Nat.zero_le _, rfl, by simp [ksLen]⟩
    case round =>
      obtain ⟨j, hj, rfl, rfl⟩ := hrel
      have q1 := (KL j).out
      by_cases hlt : j < kn
      · obtain ⟨o, rfl, hc⟩ := HKD.out.cell (by omega)
        obtain ⟨c1, xa, xn, xc, xb, c2, xd, _⟩ := hc j hlt
        have hs := KS j (by omega)
        have xl := xd.len
        have xB : (m.ks.getD j (0, [])).2.length ≤ 1048576 := by
          have := HK.out (m.ks[j]'(by omega)) (List.getElem_mem _)
          simpa [List.getD, show j < m.ks.length by omega] using this
        rw [xl] at hs xB
        clear hc c1 xd xl HE
        generalize ksLen (m.ks.take j) = L at *
        go_wp2_with fail
        go_round
        case rel => exact ⟨j + 1, by omega, by go_num, by rw [hs.out]; go_num⟩
        case measure => simp [intOf]; omega
      · obtain rfl : j = kn := by omega
        rw [List.take_of_length_le (by omega)] at q1 ⊢
        by_cases hcn : cn' = 0
        · have hcc : ¬ (0 : Int) < cn' := by omega
          have HE2 : Hid (E = (if m.nm.size = 0 then 0 else 9 + m.nm.size) + (5 + 2 * vn) + (6 + 2 * gn) + (6 + 2 * sn) + 6 + ksLen m.ks + (if b then 5 + in' else 0)) := by have := HE.out; rw [if_pos hcn] at this; exact this
          clear HE
          generalize ksLen m.ks = L at *
          cases b with
          | false =>
            go_wp2
            go_ret
            exact ⟨ret_int (by rw [HE2.out]; simp [hn0]), rfl⟩
          | true =>
            go_wp2
            go_ret
            exact ⟨ret_int (by rw [HE2.out]; simp [hn0]), rfl⟩
        · have hcc : (0 : Int) < cn' := by omega
          have HE2 : Hid (E = (if m.nm.size = 0 then 0 else 9 + m.nm.size) + (5 + 2 * vn) + (6 + 2 * gn) + (6 + 2 * sn) + 6 + ksLen m.ks + (6 + cn') + (if b then 5 + in' else 0)) := by have := HE.out; rw [if_neg hcn] at this; exact this
          clear HE
          generalize ksLen m.ks = L at *
          cases b with
          | false =>
            go_wp2
            go_ret
            exact ⟨ret_int (by rw [HE2.out]; simp [hn0]), rfl⟩
          | true =>
            go_wp2
            go_ret
            exact ⟨ret_int (by rw [HE2.out]; simp [hn0]), rfl⟩

set_option maxHeartbeats 2000000 in
set_option maxRecDepth 100000 in
theorem outOfDomain_yes (Q p : Nat) (m : CH) (b : Bool) (w : World) (hH : HelloAt w p Q m) (hS : Small m) (h : 255 < m.sid.length ∨ 255 < m.lck.length ∨ 255 < m.cmp.length ∨ 65535 < 2 * m.cs.length ∨ 255 < 2 * m.sv.length ∨ (b = true ∧ 255 < m.cid.length)) :
    Calls Try.prog 24 #[.pointer (some ⟨Q, 0, none⟩), .bool b] w fun e w' => e = .returned (.bool true) ∧ w' = w := by
  obtain ⟨da, dn, dc, db, dq, dd, _⟩ := hH.sid
  obtain ⟨la, ln, lc, lb, lq, ld, _⟩ := hH.lck
  obtain ⟨xa, xn, xc, xb, xq, xd, _⟩ := hH.cs
  obtain ⟨pa, pn, pc, pb, pq, pd, _⟩ := hH.cmp
  obtain ⟨va, vn, vc, vb, vq, vd, _⟩ := hH.sv
  obtain ⟨ia, in', ic, ib, iq, id, _⟩ := hH.cid
  have e1 := dd.len
  have e2 := ld.len
  have e3 := xd.len
  have e4 := pd.len
  have e5 := vd.len
  have e6 := id.len
  have hbx := hS.cs
  have hbv := hS.sv
  rw [e3] at hbx
  rw [e5] at hbv
  have hcc : b = true → ¬ 255 < m.sid.length → ¬ 255 < m.lck.length → ¬ 255 < m.cmp.length → ¬ 65535 < 2 * m.cs.length → ¬ 255 < 2 * m.sv.length → 255 < m.cid.length := fun _ h1 h2 h3 h4 h5 => by
    rcases h with h | h | h | h | h | h
    · exact absurd h h1
    · exact absurd h h2
    · exact absurd h h3
    · exact absurd h h4
    · exact absurd h h5
    · exact h.2
  have hbb : ¬ 255 < m.sid.length → ¬ 255 < m.lck.length → ¬ 255 < m.cmp.length → ¬ 65535 < 2 * m.cs.length → ¬ 255 < 2 * m.sv.length → b = true := fun h1 h2 h3 h4 h5 => by
    rcases h with h | h | h | h | h | h
    · exact absurd h h1
    · exact absurd h h2
    · exact absurd h h3
    · exact absurd h h4
    · exact absurd h h5
    · exact h.1
  clear h hH hS dd ld xd pd vd id
  by_cases g0 : 255 < m.sid.length
  · have k0 : (255 : Int) < dn := by omega
    clear hcc hbb e1 e2 e3 e4 e5 e6 g0
    go_enter Try.func24, Try.ntmps24
    go_wp2_with fail
    go_ret
    exact ⟨rfl, rfl⟩
  have k0 : ¬ (255 : Int) < dn := by omega
  by_cases g1 : 255 < m.lck.length
  · have k1 : (255 : Int) < ln := by omega
    clear hcc hbb e1 e2 e3 e4 e5 e6 g1 g0
    go_enter Try.func24, Try.ntmps24
    go_wp2_with fail
    go_ret
    exact ⟨rfl, rfl⟩
  have k1 : ¬ (255 : Int) < ln := by omega
  by_cases g2 : 255 < m.cmp.length
  · have k2 : (255 : Int) < pn := by omega
    clear hcc hbb e1 e2 e3 e4 e5 e6 g2 g0 g1
    go_enter Try.func24, Try.ntmps24
    go_wp2_with fail
    go_ret
    exact ⟨rfl, rfl⟩
  have k2 : ¬ (255 : Int) < pn := by omega
  by_cases g3 : 65535 < 2 * m.cs.length
  · have k3 : (65535 : Int) < 2 * xn := by omega
    clear hcc hbb e1 e2 e3 e4 e5 e6 g3 g0 g1 g2
    go_enter Try.func24, Try.ntmps24
    go_wp2_with fail
    go_ret
    exact ⟨rfl, rfl⟩
  have k3 : ¬ (65535 : Int) < 2 * xn := by omega
  by_cases g4 : 255 < 2 * m.sv.length
  · have k4 : (255 : Int) < 2 * vn := by omega
    clear hcc hbb e1 e2 e3 e4 e5 e6 g4 g0 g1 g2 g3
    go_enter Try.func24, Try.ntmps24
    go_wp2_with fail
    go_ret
    exact ⟨rfl, rfl⟩
  have k4 : ¬ (255 : Int) < 2 * vn := by omega
  have gb := hbb g0 g1 g2 g3 g4
  have gc := hcc gb g0 g1 g2 g3 g4
  have k5 : (255 : Int) < in' := by omega
  subst gb
  clear hcc hbb e1 e2 e3 e4 e5 e6 g0 g1 g2 g3 g4 gc
  go_enter Try.func24, Try.ntmps24
  go_wp2_with fail
  go_ret
  exact ⟨rfl, rfl⟩

set_option maxHeartbeats 2000000 in
set_option maxRecDepth 100000 in
theorem outOfDomain_ext (Q p : Nat) (m : CH) (b : Bool) (w : World) (hH : HelloAt w p Q m) (hS : Small m) (h1 : m.sid.length ≤ 255) (h2 : m.lck.length ≤ 255) (h3 : m.cmp.length ≤ 255) (h4 : 2 * m.cs.length ≤ 65535) (h5 : 2 * m.sv.length ≤ 255) (h6 : b = true → m.cid.length ≤ 255) :
    Calls Try.prog 24 #[.pointer (some ⟨Q, 0, none⟩), .bool b] w fun e w' => e = .returned (.bool (decide (65535 < (extLen m b : Int)))) ∧ w' = w := by
  have HH : Hid (HelloAt w p Q m) := hH
  have HS : Hid (Small m) := hS
  obtain ⟨da, dn, dc, db, dq, dd, _⟩ := hH.sid
  obtain ⟨la, ln, lc, lb, lq, ld, _⟩ := hH.lck
  obtain ⟨xa, xn, xc, xb, xq, xd, _⟩ := hH.cs
  obtain ⟨pa, pn, pc, pb, pq, pd, _⟩ := hH.cmp
  obtain ⟨va, vn, vc, vb, vq, vd, _⟩ := hH.sv
  obtain ⟨ia, in', ic, ib, iq, id, _⟩ := hH.cid
  have e1 := dd.len
  have e2 := ld.len
  have e3 := xd.len
  have e4 := pd.len
  have e5 := vd.len
  have e6 := id.len
  have hbx := hS.cs
  have hbv := hS.sv
  rw [e3] at hbx
  rw [e5] at hbv
  have k0 : ¬ (255 : Int) < dn := by omega
  have k1 : ¬ (255 : Int) < ln := by omega
  have k2 : ¬ (255 : Int) < pn := by omega
  have k3 : ¬ (65535 : Int) < 2 * xn := by omega
  have k4 : ¬ (255 : Int) < 2 * vn := by omega
  cases b with
  | false =>
    clear hH hS dd ld xd pd vd id e1 e2 e3 e4 e5 e6 h1 h2 h3 h4 h5 h6
    go_enter Try.func24, Try.ntmps24
    go_wp2_with fail
    refine (extBlockLen Q p m false _ HH.out HS.out).mono ?_
    rintro e w1 ⟨rfl, rfl⟩
    go_wp2_with fail
    go_ret
    exact ⟨rfl, rfl⟩
  | true =>
    have k5 : ¬ (255 : Int) < in' := by have := h6 rfl; omega
    clear hH hS dd ld xd pd vd id e1 e2 e3 e4 e5 e6 h1 h2 h3 h4 h5 h6
    go_enter Try.func24, Try.ntmps24
    go_wp2_with fail
    refine (extBlockLen Q p m true _ HH.out HS.out).mono ?_
    rintro e w1 ⟨rfl, rfl⟩
    go_wp2_with fail
    go_ret
    exact ⟨rfl, rfl⟩
end Go.Proofs.Qxb6615713a
