/- THE WALK of (*ClientHello).Marshal. -/
import Derived.Test.Qxb6615713aMarshalC
namespace Go.Proofs.Qxb6615713a
open Go.RowKit
set_option linter.unusedSimpArgs false
set_option linter.unusedVariables false

theorem BSl.mono {w : World} {p p' q o : Nat} {xs : List Int} (h : BSl w p q o xs) (hp : p ≤ p') : BSl w p' q o xs := by
  obtain ⟨a, n, c, b, h1, h2, h3⟩ := h
  exact ⟨a, n, c, b, h1, h2, fun hn => by have := h3 hn; omega⟩
theorem USl.mono {w : World} {p p' q o : Nat} {xs : List Int} (h : USl w p q o xs) (hp : p ≤ p') : USl w p' q o xs := by
  obtain ⟨a, n, c, b, h1, h2, h3⟩ := h
  exact ⟨a, n, c, b, h1, h2, fun hn => by have := h3 hn; omega⟩
theorem RdKs.mono {w : World} {p p' b : Nat} {a : Option Addr} {n c : Nat} {l : List (Int × List Int)} (h : RdKs w p b a n c l) (hp : p ≤ p') : RdKs w p' b a n c l := by
  refine ⟨h.len, h.cap, h.max, h.nil, fun hn => by have := h.lt hn; omega, fun hn => ?_, h.wf⟩
  obtain ⟨o, rfl, hc⟩ := h.cell hn
  refine ⟨o, rfl, fun j hj => ?_⟩
  obtain ⟨h1, ka, kn, kc, kb, h2, h3, h4⟩ := hc j hj
  exact ⟨h1, ka, kn, kc, kb, h2, h3, fun hk => by have := h4 hk; omega⟩
theorem KSl.mono {w : World} {p p' q o : Nat} {l : List (Int × List Int)} (h : KSl w p q o l) (hp : p ≤ p') : KSl w p' q o l := by
  obtain ⟨a, n, c, b, h1, h2⟩ := h
  exact ⟨a, n, c, b, h1, h2.mono hp⟩
theorem HelloAt.mono {w : World} {p p' q : Nat} {m : CH} (h : HelloAt w p q m) (hp : p ≤ p') : HelloAt w p' q m :=
  ⟨by have := h.qp; omega, h.ver, h.verB, h.rnd, h.rndL, h.rndB, h.sid.mono hp, h.lck.mono hp, h.cs.mono hp, h.cmp.mono hp, h.nm, h.nmL, h.sv.mono hp, h.sg.mono hp, h.ss.mono hp, h.ks.mono hp, h.ck.mono hp, h.cid.mono hp, h.has⟩

theorem HelloAt.rdRnd {w : World} {p q : Nat} {m : CH} (h : HelloAt w p q m) : Rd w q (some ⟨q, 1, none⟩) 32 32 m.rnd :=
  ⟨h.rndL, Nat.le_refl _, by unfold maxLen; omega, fun e => by simp at e, fun _ => ⟨1, rfl, fun j hj => h.rnd j hj⟩, h.rndB⟩

theorem headB_length (m : CH) (h : m.rnd.length = 32) : (headB m).length = 39 + m.sid.length + m.lck.length + 2 * m.cs.length + m.cmp.length := by
  simp [headB, vec_length, u16s_length, h]; omega
theorem marshalB_length (m : CH) (h : m.rnd.length = 32) : (marshalB m).length = 41 + m.sid.length + m.lck.length + 2 * m.cs.length + m.cmp.length + extLen m m.has := by
  simp only [marshalB, List.length_append, headB_length m h, vec_length, extsB_length]; omega

theorem st_next {p N q : Nat} {m : CH} {w0 w w' : World} {v v' : Value} {zs : List Int} (hw : WFr p v v' w w') (h : WrAt w p v zs) (hE : Env w p N q m) (hv : Above p v) (B : Below N w0 w) : Env w' p N q m ∧ Above p v' ∧ Below N w0 w' :=
  ⟨hE.below (hw.low h.lt hv), hw.above h.lt hv, B.trans ((hw.low h.lt hv).mono (Nat.le_of_lt hE.np))⟩

set_option maxHeartbeats 2000000 in
theorem marshal (q : Nat) (m : CH) (w : World) (hH : HelloAt w w.heap.size q m) (hF : Fits m) :
    Calls Try.prog 26 #[.pointer (some ⟨q, 0, none⟩)] w fun e w' => ∃ ao c, e = .returned (.slice ao (marshalB m).length c) ∧ ∃ b, Rd w' b ao (marshalB m).length c (marshalB m) ∧ w.heap.size ≤ b ∧ Below w.heap.size w w' := by
  have hE0 : Env ((w.alloc (.cells #[.pointer (some ⟨q, 0, none⟩)] 47)).alloc (.cells #[.slice none 0 0] 81)) (w.heap.size + 1) w.heap.size q m := by
    refine ⟨by omega, ?_, ?_⟩
    · exact (Below.heap_alloc _ _ _ (by simp)).trans (heap_alloc_new w _)
    · refine (hH.below ?_).mono (by omega)
      exact ((Below.refl w.heap.size w).alloc (Nat.le_refl _) _).alloc (by simp) _
  have hw0 : WrAt ((w.alloc (.cells #[.pointer (some ⟨q, 0, none⟩)] 47)).alloc (.cells #[.slice none 0 0] 81)) (w.heap.size + 1) (.slice none 0 0) [] := by
    refine ⟨?_, Own.nil _, fun _ h => by cases h⟩
    have := heap_alloc_new (w.alloc (.cells #[.pointer (some ⟨q, 0, none⟩)] 47)) (.cells #[.slice none 0 0] 81)
    simpa using this
  have B0 : Below w.heap.size w ((w.alloc (.cells #[.pointer (some ⟨q, 0, none⟩)] 47)).alloc (.cells #[.slice none 0 0] 81)) := ((Below.refl w.heap.size w).alloc (Nat.le_refl _) _).alloc (by simp) _
  have hv0 : Above (w.heap.size + 1) (.slice none 0 0) := fun g hg => by simp [Value.ownBlock] at hg
  have cN := cell_of_one hE0.box
  have cv := hE0.hello.ver
  have hrl := hH.rndL
  have hvb := hH.verB
  have k1 : Hid (m.sid.length ≤ 255) := hF.sid
  have k2 : Hid (m.lck.length ≤ 255) := hF.lck
  have k3 : Hid (2 * m.cs.length ≤ 65535) := hF.cs
  have k4 : Hid (m.cmp.length ≤ 255) := hF.cmp
  have HF : Hid (Fits m) := hF
  clear hF hH
  go_enter Try.func26, Try.ntmps26
  go_wp2_with fail
  refine (wu16 _ _ [] m.ver _ hw0 hvb (by simp)).mono ?_
  rintro e w1 ⟨rfl, v1, h1, g1⟩
  obtain ⟨hE1, hv1, B1⟩ := st_next g1 hw0 hE0 hv0 B0
  clear hE0 hw0 B0 hv0 cN cv g1
  rw [List.nil_append] at h1
  generalize hP : w.heap.size + 1 = P at *
  generalize hN : w.heap.size = N at *
  have hNP : N < P := by omega
  have HN : Hid (w.heap.size = N) := hN
  clear hP hN
  have cN1 := cell_of_one hE1.box
  have hd1 := hE1.hello.rdRnd
  have hq1 := hE1.hello.qp
  go_wp2_with fail
  refine (wbytes P q v1 _ m.rnd _ _ _ _ h1 hd1 (by simp; omega)).mono ?_
  rintro e w2 ⟨rfl, v2, h2, g2⟩
  obtain ⟨hE2, hv2, B2⟩ := st_next g2 h1 hE1 hv1 B1
  clear hE1 h1 B1 hv1 cN1 hd1 g2
  have cN2 := cell_of_one hE2.box
  obtain ⟨xa, xn, xc, xb, xq, xd, xl⟩ := hE2.hello.sid
  go_wp2_with fail
  refine (wbytesVector P 1 xb v2 _ m.sid xa xn xc _ h2 (by omega) xd (fun hn => ⟨by have := xl hn; omega, fun e => by have := hv2 _ e; have := xl hn; omega⟩) (by have := k1.out; simp; omega) (by have := k1.out; simp; omega)).mono ?_
  rintro e w3 ⟨rfl, v3, h3, g3⟩
  obtain ⟨hE3, hv3, B3⟩ := st_next g3 h2 hE2 hv2 B2
  clear hE2 h2 B2 hv2 cN2 g3 xq xd xl
  have cN3 := cell_of_one hE3.box
  obtain ⟨ya, yn, yc, yb, yq, yd, yl⟩ := hE3.hello.lck
  go_wp2_with fail
  refine (wbytesVector P 1 yb v3 _ m.lck ya yn yc _ h3 (by omega) yd (fun hn => ⟨by have := yl hn; omega, fun e => by have := hv3 _ e; have := yl hn; omega⟩) (by have := k2.out; simp; omega) (by have := k1.out; have := k2.out; simp [be_length]; omega)).mono ?_
  rintro e w4 ⟨rfl, v4, h4, g4⟩
  obtain ⟨hE4, hv4, B4⟩ := st_next g4 h3 hE3 hv3 B3
  clear hE3 h3 B3 hv3 cN3 g4 yq yd yl
  have hp4 := h4.lt
  go_wp2_with fail
  refine (wvector P 2 51 #[.pointer (some ⟨N, 0, none⟩)] v4 _ (u16s m.cs) _ ent51 h4 (by omega) (by have := k3.out; rw [u16s_length]; simp; omega) (by have := k1.out; have := k2.out; have := k3.out; rw [u16s_length]; simp [be_length]; omega) ?_).mono ?_
  · intro wx vx hx gx
    refine (fill51 P N q m vx _ wx (hE4.below (gx.low hp4 hv4)) hx (gx.above hp4 hv4) (by have := k1.out; have := k2.out; have := k3.out; simp [be_length]; omega)).mono ?_
    rintro e wy ⟨rfl, vy, hy, gy⟩
    exact ⟨rfl, vy, hy, gy⟩
  rintro e w5 ⟨rfl, v5, h5, g5⟩
  obtain ⟨hE5, hv5, B5⟩ := st_next g5 h4 hE4 hv4 B4
  clear hE4 h4 B4 hv4 g5 hp4
  have cN5 := cell_of_one hE5.box
  obtain ⟨za, zn, zc, zb, zq, zd, zl⟩ := hE5.hello.cmp
  go_wp2_with fail
  refine (wbytesVector P 1 zb v5 _ m.cmp za zn zc _ h5 (by omega) zd (fun hn => ⟨by have := zl hn; omega, fun e => by have := hv5 _ e; have := zl hn; omega⟩) (by have := k4.out; simp; omega) (by have := k1.out; have := k2.out; have := k3.out; have := k4.out; simp [be_length, u16s_length]; omega)).mono ?_
  rintro e w6 ⟨rfl, v6, h6, g6⟩
  obtain ⟨hE6, hv6, B6⟩ := st_next g6 h5 hE5 hv5 B5
  clear hE5 h5 B5 hv5 cN5 g6 zq zd zl
  have e6 : [m.ver / 256, m.ver % 256] ++ m.rnd ++ be 1 m.sid.length ++ m.sid ++ be 1 m.lck.length ++ m.lck ++ be 2 (u16s m.cs).length ++ u16s m.cs ++ be 1 m.cmp.length ++ m.cmp = headB m := by simp [headB, vec]
  rw [e6] at h6
  clear e6
  have hp6 := h6.lt
  have hXL := HF.out.ext
  rw [← extsB_length] at hXL
  have HXL : Hid ((extsB m).length ≤ 65535) := hXL
  have hHL : Hid ((headB m).length ≤ 100000) := by
    show _ ≤ _
    rw [headB_length m hrl]
    have := k1.out; have := k2.out; have := k3.out; have := k4.out; omega
  clear hXL
  go_wp2_with fail
  refine (wvector P 2 52 #[.pointer (some ⟨N, 0, none⟩)] v6 _ (extsB m) _ ent52 h6 (by omega) (by have := HXL.out; simp; omega) (by have := HXL.out; have := hHL.out; omega) ?_).mono ?_
  · intro wx vx hx gx
    refine (fill52 P N q m vx _ wx (hE6.below (gx.low hp6 hv6)) hx (gx.above hp6 hv6) HF.out (by have := hHL.out; simp; omega)).mono ?_
    rintro e wy ⟨rfl, vy, hy, gy⟩
    exact ⟨rfl, vy, hy, gy⟩
  rintro e w7 ⟨rfl, v7, h7, g7⟩
  obtain ⟨hE7, hv7, B7⟩ := st_next g7 h6 hE6 hv6 B6
  clear hE6 h6 B6 hv6 g7 hp6
  have e7 : headB m ++ be 2 (extsB m).length ++ extsB m = marshalB m := by simp [marshalB, vec]
  rw [e7] at h7
  clear e7
  obtain ⟨b8, a8, c8, hv8, hd8, ho8⟩ := h7.own.rd h7.wf
  subst hv8
  have c7 := cell_of_one h7.blk
  have hpos : Hid (0 < (marshalB m).length) := by show _ < _; rw [marshalB_length m hrl]; omega
  have HB : Hid (N ≤ b8) := by
    have := hv7 _ (ho8 hpos.out)
    show _ ≤ _
    omega
  clear ho8 hv7
  go_wp2
  go_ret
  refine ⟨a8, c8, rfl, b8, hd8, ?_, ?_⟩
  · rw [HN.out]; exact HB.out
  · rw [HN.out]; exact B7
end Go.Proofs.Qxb6615713a
