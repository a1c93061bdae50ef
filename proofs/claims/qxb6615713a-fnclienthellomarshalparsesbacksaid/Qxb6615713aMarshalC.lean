/- THE WALKS of Marshal, third part: the extension block, Marshal itself. -/
import Derived.Test.Qxb6615713aMarshalB
namespace Go.Proofs.Qxb6615713a
open Go.RowKit
set_option linter.unusedSimpArgs false
set_option linter.unusedVariables false

set_option maxHeartbeats 400000 in
theorem fill63 (p N q : Nat) (m : CH) (v : Value) (xs : List Int) (w : World) (hE : Env w p N q m) (h : WrAt w p v xs) (hv : Above p v) (hfit : ksLen m.ks ≤ 65535) (hsz : xs.length ≤ 1098000000000) :
    Calls Try.prog 63 #[.pointer (some ⟨p, 0, none⟩), .pointer (some ⟨N, 0, none⟩)] w fun e w' => e = .returned (.tuple #[]) ∧ ∃ v', WrAt w' p v' (xs ++ vec 2 (ksB m.ks)) ∧ WFr p v v' w w' := by
  have hplt := h.lt
  go_enter Try.func63, Try.ntmps63
  go_wp2_with fail
  refine (wvector p 2 64 #[.pointer (some ⟨N, 0, none⟩)] v xs (ksB m.ks) _ ent64 h (by omega) (by rw [ksB_length]; simp; omega) (by rw [ksB_length]; omega) ?_).mono ?_
  · intro w1 v1 h1 hw1
    refine (fill64 p N q m v1 _ w1 (hE.below (hw1.low hplt hv)) h1 (hw1.above hplt hv) hfit (by simp; omega)).mono ?_
    rintro e w2 ⟨rfl, v2, h2, hw2⟩
    exact ⟨rfl, v2, h2, hw2⟩
  · rintro e w1 ⟨rfl, v1, h1, hw1⟩
    go_wp2
    go_end0
    exact ⟨rfl, v1, by rw [List.append_assoc] at h1; exact h1, hw1⟩

/-- The extension block's length, as the law reckons it. -/
def extLen (m : CH) (cid : Bool) : Nat := (if m.nm.size = 0 then 0 else 9 + m.nm.size) + (5 + 2 * m.sv.length) + (6 + 2 * m.sg.length) + (6 + 2 * m.ss.length) + 6 + ksLen m.ks + (if m.ck.length = 0 then 0 else 6 + m.ck.length) + (if cid then 5 + m.cid.length else 0)
theorem sniB_length (m : CH) : (sniB m).length = 5 + m.nm.size := by simp [sniB, vec_length, nmB_length]; omega
theorem extsB_length (m : CH) : (extsB m).length = extLen m m.has := by
  unfold extsB extLen
  simp only [List.length_append, ext_length, vec_length, u16s_length, ksB_length]
  split <;> split <;> split <;> simp [ext_length, vec_length, sniB_length] <;> omega

/-- THE DOMAIN: every vector fits its prefix. -/
structure Fits (m : CH) : Prop where
  sid : m.sid.length ≤ 255
  lck : m.lck.length ≤ 255
  cs : 2 * m.cs.length ≤ 65535
  cmp : m.cmp.length ≤ 255
  sv : 2 * m.sv.length ≤ 255
  cid : m.has = true → m.cid.length ≤ 255
  ext : extLen m m.has ≤ 65535

/-- One extension whose filling closure is one of Marshal's own. -/
theorem ext_step (p N q fno : Nat) (t : Int) (m : CH) (v : Value) (xs ys : List Int) (w : World) (hen : Ent fno) (hE : Env w p N q m) (h : WrAt w p v xs) (hv : Above p v) (ht : 0 ≤ t ∧ t ≤ 65535) (hlen : ys.length ≤ 65535) (hsz : xs.length ≤ 1000000000)
    (hfill : ∀ w1 v1 zs, Env w1 p N q m → WrAt w1 p v1 zs → Above p v1 → zs.length ≤ 1000000004 → Calls Try.prog fno #[.pointer (some ⟨p, 0, none⟩), .pointer (some ⟨N, 0, none⟩)] w1 fun e w2 => e = .returned (.tuple #[]) ∧ ∃ v2, WrAt w2 p v2 (zs ++ ys) ∧ WFr p v1 v2 w1 w2) :
    Calls Try.prog 53 #[.pointer (some ⟨p, 0, none⟩), .int .u16 t, .func (.func fno) #[] #[.pointer (some ⟨N, 0, none⟩)]] w fun e w' => e = .returned (.tuple #[]) ∧ ∃ v', WrAt w' p v' (xs ++ ext t ys) ∧ WFr p v v' w w' ∧ Env w' p N q m ∧ Above p v' := by
  refine (wextension p fno t #[.pointer (some ⟨N, 0, none⟩)] v xs ys w hen h ht (by omega) (by omega) ?_).mono ?_
  · intro w1 v1 zs h1 hw1 hz
    exact hfill w1 v1 zs (hE.below (hw1.low h.lt hv)) h1 (hw1.above h.lt hv) (by omega)
  · rintro e w1 ⟨rfl, v1, h1, hw1⟩
    exact ⟨rfl, v1, h1, hw1, hE.below (hw1.low h.lt hv), hw1.above h.lt hv⟩

theorem toList_size (s : ByteArray) : s.toList.length = s.size := by rw [ByteArray.toList_eq, Array.length_toList]; rfl
theorem nm_empty {s : ByteArray} (h : s.size = 0) : s.toList.isEmpty = true := by
  have e : s.toList.length = 0 := by rw [toList_size]; exact h
  rw [List.length_eq_zero_iff.1 e]; rfl
theorem nm_some {s : ByteArray} (h : ¬ s.size = 0) : s.toList.isEmpty = false := by
  cases hl : s.toList with
  | nil =>
    have e : s.toList.length = s.size := toList_size s
    rw [hl] at e; exact absurd e.symm h
  | cons a l => rfl

set_option maxHeartbeats 4000000 in
theorem fill52 (p N q : Nat) (m : CH) (v : Value) (xs : List Int) (w : World) (hE : Env w p N q m) (h : WrAt w p v xs) (hv : Above p v) (hF : Fits m) (hsz : xs.length ≤ 1000000) :
    Calls Try.prog 52 #[.pointer (some ⟨p, 0, none⟩), .pointer (some ⟨N, 0, none⟩)] w fun e w' => e = .returned (.tuple #[]) ∧ ∃ v', WrAt w' p v' (xs ++ extsB m) ∧ WFr p v v' w w' := by
  have cN := cell_of_one hE.box
  have cn := hE.hello.nm
  have HX : Hid (extLen m m.has ≤ 65535) := hF.ext
  have f1 : Hid (2 * m.sv.length ≤ 255) := hF.sv
  have f2 : Hid (2 * m.sg.length ≤ 65512) := by have := HX.out; unfold extLen at this; show _ ≤ _; omega
  have f3 : Hid (2 * m.ss.length ≤ 65512) := by have := HX.out; unfold extLen at this; show _ ≤ _; omega
  have f4 : Hid (ksLen m.ks ≤ 65512) := by have := HX.out; unfold extLen at this; show _ ≤ _; omega
  have f5 : Hid (m.nm.size ≤ 65512) := by have := HX.out; unfold extLen at this; show _ ≤ _; split at this <;> omega
  have f6 : Hid (m.ck.length ≤ 65512) := by have := HX.out; unfold extLen at this; show _ ≤ _; split at this <;> split at this <;> omega
  have f7 : Hid (m.has = true → m.cid.length ≤ 255) := hF.cid
  clear hF
  by_cases hnm : m.nm.size = 0
  · have hnE := nm_empty hnm
    go_enter Try.func52, Try.ntmps52
    go_wp2_with fail
    refine (ext_step p N q 57 43 m v (xs) (vec 1 (u16s m.sv)) _ ent57 hE h hv (by omega) (by rw [vec_length, u16s_length]; have := f1.out; omega) (by omega) (fun w1 v1 zs e1 e2 e3 e4 => fill57 p N q m v1 zs w1 e1 e2 e3 f1.out (by omega))).mono ?_
    rintro e w1 ⟨rfl, v1, h1, hw1, hE1, hv1⟩
    go_wp2_with fail
    refine (ext_step p N q 59 10 m v1 ((xs) ++ ext 43 (vec 1 (u16s m.sv))) (vec 2 (u16s m.sg)) _ ent59 hE1 h1 hv1 (by omega) (by rw [vec_length, u16s_length]; have := f2.out; omega) (by simp [ext_length, vec_length, u16s_length, ksB_length, sniB_length]; have := f1.out; have := f2.out; have := f3.out; have := f4.out; have := f5.out; have := f6.out; omega) (fun w1 v1 zs e1 e2 e3 e4 => fill59 p N q m v1 zs w1 e1 e2 e3 (by have := f2.out; omega) (by omega))).mono ?_
    rintro e w2 ⟨rfl, v2, h2, hw2, hE2, hv2⟩
    go_wp2_with fail
    refine (ext_step p N q 61 13 m v2 (((xs) ++ ext 43 (vec 1 (u16s m.sv))) ++ ext 10 (vec 2 (u16s m.sg))) (vec 2 (u16s m.ss)) _ ent61 hE2 h2 hv2 (by omega) (by rw [vec_length, u16s_length]; have := f3.out; omega) (by simp [ext_length, vec_length, u16s_length, ksB_length, sniB_length]; have := f1.out; have := f2.out; have := f3.out; have := f4.out; have := f5.out; have := f6.out; omega) (fun w1 v1 zs e1 e2 e3 e4 => fill61 p N q m v1 zs w1 e1 e2 e3 (by have := f3.out; omega) (by omega))).mono ?_
    rintro e w3 ⟨rfl, v3, h3, hw3, hE3, hv3⟩
    go_wp2_with fail
    refine (ext_step p N q 63 51 m v3 ((((xs) ++ ext 43 (vec 1 (u16s m.sv))) ++ ext 10 (vec 2 (u16s m.sg))) ++ ext 13 (vec 2 (u16s m.ss))) (vec 2 (ksB m.ks)) _ ent63 hE3 h3 hv3 (by omega) (by rw [vec_length, ksB_length]; have := f4.out; omega) (by simp [ext_length, vec_length, u16s_length, ksB_length, sniB_length]; have := f1.out; have := f2.out; have := f3.out; have := f4.out; have := f5.out; have := f6.out; omega) (fun w1 v1 zs e1 e2 e3 e4 => fill63 p N q m v1 zs w1 e1 e2 e3 (by have := f4.out; omega) (by omega))).mono ?_
    rintro e w4 ⟨rfl, v4, h4, hw4, hE4, hv4⟩
    have cN4 := cell_of_one hE4.box
    obtain ⟨ca, cn4, cc, cb, cq4, hd4, hb4⟩ := hE4.hello.ck
    have ckl := hd4.len
    by_cases hck : cn4 = 0
    · have hck' : m.ck.length = 0 := by omega
      subst hck
      have cN40 := cell_of_one hE4.box
      have ch4 := hE4.hello.has
      obtain ⟨ia, in4, ic, ib, iq4, id4, ibb4⟩ := hE4.hello.cid
      cases hhas : m.has with
      | false =>
        rw [hhas] at ch4
        go_wp2
        go_end0
        exact ⟨rfl, v4, by simpa [extsB, hnm, hck', hhas, List.append_assoc] using h4, (((hw1.trans hw2).trans hw3).trans hw4)⟩
      | true =>
        rw [hhas] at ch4
        have hci := f7.out hhas
        go_wp2_with fail
        refine (wconnectionID p ib v4 _ m.cid ia in4 ic _ h4 id4 (fun hn => ⟨by have := ibb4 hn; omega, fun e => by have := hv4 _ e; have := ibb4 hn; omega⟩) hci (by simp [ext_length, vec_length, u16s_length, ksB_length, sniB_length]; have := f1.out; have := f2.out; have := f3.out; have := f4.out; have := f5.out; have := f6.out; omega)).mono ?_
        rintro e w5 ⟨rfl, v5, h5, hw5⟩
        go_wp2
        go_end0
        exact ⟨rfl, v5, by simpa [extsB, hnm, hck', hhas, List.append_assoc] using h5, (((hw1.trans hw2).trans hw3).trans hw4).trans hw5⟩
    · have hck' : ¬ m.ck.length = 0 := by omega
      have hpos : (0 : Int) < cn4 := by omega
      go_wp2_with fail
      refine (ext_step p N q 65 44 m v4 (((((xs) ++ ext 43 (vec 1 (u16s m.sv))) ++ ext 10 (vec 2 (u16s m.sg))) ++ ext 13 (vec 2 (u16s m.ss))) ++ ext 51 (vec 2 (ksB m.ks))) (vec 2 m.ck) _ ent65 hE4 h4 hv4 (by omega) (by rw [vec_length]; have := f6.out; omega) (by simp [ext_length, vec_length, u16s_length, ksB_length, sniB_length]; have := f1.out; have := f2.out; have := f3.out; have := f4.out; have := f5.out; have := f6.out; omega) (fun w1 v1 zs e1 e2 e3 e4 => fill65 p N q m v1 zs w1 e1 e2 e3 (by have := f6.out; omega) (by omega))).mono ?_
      rintro e w5 ⟨rfl, v5, h5, hw5, hE5, hv5⟩
      have cN50 := cell_of_one hE5.box
      have ch5 := hE5.hello.has
      obtain ⟨ia, in5, ic, ib, iq5, id5, ibb5⟩ := hE5.hello.cid
      cases hhas : m.has with
      | false =>
        rw [hhas] at ch5
        go_wp2
        go_end0
        exact ⟨rfl, v5, by simpa [extsB, hnm, hck', hhas, List.append_assoc] using h5, ((((hw1.trans hw2).trans hw3).trans hw4).trans hw5)⟩
      | true =>
        rw [hhas] at ch5
        have hci := f7.out hhas
        go_wp2_with fail
        refine (wconnectionID p ib v5 _ m.cid ia in5 ic _ h5 id5 (fun hn => ⟨by have := ibb5 hn; omega, fun e => by have := hv5 _ e; have := ibb5 hn; omega⟩) hci (by simp [ext_length, vec_length, u16s_length, ksB_length, sniB_length]; have := f1.out; have := f2.out; have := f3.out; have := f4.out; have := f5.out; have := f6.out; omega)).mono ?_
        rintro e w6 ⟨rfl, v6, h6, hw6⟩
        go_wp2
        go_end0
        exact ⟨rfl, v6, by simpa [extsB, hnm, hck', hhas, List.append_assoc] using h6, ((((hw1.trans hw2).trans hw3).trans hw4).trans hw5).trans hw6⟩
  · have hnE := nm_some hnm
    go_enter Try.func52, Try.ntmps52
    go_wp2_with fail
    refine (ext_step p N q 54 0 m v (xs) (sniB m) _ ent54 hE h hv (by omega) (by rw [sniB_length]; have := f5.out; omega) (by omega) (fun w1 v1 zs e1 e2 e3 e4 => fill54 p N q m v1 zs w1 e1 e2 e3 (by have := f5.out; omega) (by omega))).mono ?_
    rintro e w1 ⟨rfl, v1, h1, hw1, hE1, hv1⟩
    go_wp2_with fail
    refine (ext_step p N q 57 43 m v1 (xs ++ ext 0 (sniB m)) (vec 1 (u16s m.sv)) _ ent57 hE1 h1 hv1 (by omega) (by rw [vec_length, u16s_length]; have := f1.out; omega) (by simp [ext_length, vec_length, u16s_length, ksB_length, sniB_length]; have := f1.out; have := f2.out; have := f3.out; have := f4.out; have := f5.out; have := f6.out; omega) (fun w1 v1 zs e1 e2 e3 e4 => fill57 p N q m v1 zs w1 e1 e2 e3 f1.out (by omega))).mono ?_
    rintro e w2 ⟨rfl, v2, h2, hw2, hE2, hv2⟩
    go_wp2_with fail
    refine (ext_step p N q 59 10 m v2 ((xs ++ ext 0 (sniB m)) ++ ext 43 (vec 1 (u16s m.sv))) (vec 2 (u16s m.sg)) _ ent59 hE2 h2 hv2 (by omega) (by rw [vec_length, u16s_length]; have := f2.out; omega) (by simp [ext_length, vec_length, u16s_length, ksB_length, sniB_length]; have := f1.out; have := f2.out; have := f3.out; have := f4.out; have := f5.out; have := f6.out; omega) (fun w1 v1 zs e1 e2 e3 e4 => fill59 p N q m v1 zs w1 e1 e2 e3 (by have := f2.out; omega) (by omega))).mono ?_
    rintro e w3 ⟨rfl, v3, h3, hw3, hE3, hv3⟩
    go_wp2_with fail
    refine (ext_step p N q 61 13 m v3 (((xs ++ ext 0 (sniB m)) ++ ext 43 (vec 1 (u16s m.sv))) ++ ext 10 (vec 2 (u16s m.sg))) (vec 2 (u16s m.ss)) _ ent61 hE3 h3 hv3 (by omega) (by rw [vec_length, u16s_length]; have := f3.out; omega) (by simp [ext_length, vec_length, u16s_length, ksB_length, sniB_length]; have := f1.out; have := f2.out; have := f3.out; have := f4.out; have := f5.out; have := f6.out; omega) (fun w1 v1 zs e1 e2 e3 e4 => fill61 p N q m v1 zs w1 e1 e2 e3 (by have := f3.out; omega) (by omega))).mono ?_
    rintro e w4 ⟨rfl, v4, h4, hw4, hE4, hv4⟩
    go_wp2_with fail
    refine (ext_step p N q 63 51 m v4 ((((xs ++ ext 0 (sniB m)) ++ ext 43 (vec 1 (u16s m.sv))) ++ ext 10 (vec 2 (u16s m.sg))) ++ ext 13 (vec 2 (u16s m.ss))) (vec 2 (ksB m.ks)) _ ent63 hE4 h4 hv4 (by omega) (by rw [vec_length, ksB_length]; have := f4.out; omega) (by simp [ext_length, vec_length, u16s_length, ksB_length, sniB_length]; have := f1.out; have := f2.out; have := f3.out; have := f4.out; have := f5.out; have := f6.out; omega) (fun w1 v1 zs e1 e2 e3 e4 => fill63 p N q m v1 zs w1 e1 e2 e3 (by have := f4.out; omega) (by omega))).mono ?_
    rintro e w5 ⟨rfl, v5, h5, hw5, hE5, hv5⟩
    have cN5 := cell_of_one hE5.box
    obtain ⟨ca, cn5, cc, cb, cq5, hd5, hb5⟩ := hE5.hello.ck
    have ckl := hd5.len
    by_cases hck : cn5 = 0
    · have hck' : m.ck.length = 0 := by omega
      subst hck
      have cN50 := cell_of_one hE5.box
      have ch5 := hE5.hello.has
      obtain ⟨ia, in5, ic, ib, iq5, id5, ibb5⟩ := hE5.hello.cid
      cases hhas : m.has with
      | false =>
        rw [hhas] at ch5
        go_wp2
        go_end0
        exact ⟨rfl, v5, by simpa [extsB, hnm, hck', hhas, List.append_assoc] using h5, ((((hw1.trans hw2).trans hw3).trans hw4).trans hw5)⟩
      | true =>
        rw [hhas] at ch5
        have hci := f7.out hhas
        go_wp2_with fail
        refine (wconnectionID p ib v5 _ m.cid ia in5 ic _ h5 id5 (fun hn => ⟨by have := ibb5 hn; omega, fun e => by have := hv5 _ e; have := ibb5 hn; omega⟩) hci (by simp [ext_length, vec_length, u16s_length, ksB_length, sniB_length]; have := f1.out; have := f2.out; have := f3.out; have := f4.out; have := f5.out; have := f6.out; omega)).mono ?_
        rintro e w6 ⟨rfl, v6, h6, hw6⟩
        go_wp2
        go_end0
        exact ⟨rfl, v6, by simpa [extsB, hnm, hck', hhas, List.append_assoc] using h6, ((((hw1.trans hw2).trans hw3).trans hw4).trans hw5).trans hw6⟩
    · have hck' : ¬ m.ck.length = 0 := by omega
      have hpos : (0 : Int) < cn5 := by omega
      go_wp2_with fail
      refine (ext_step p N q 65 44 m v5 (((((xs ++ ext 0 (sniB m)) ++ ext 43 (vec 1 (u16s m.sv))) ++ ext 10 (vec 2 (u16s m.sg))) ++ ext 13 (vec 2 (u16s m.ss))) ++ ext 51 (vec 2 (ksB m.ks))) (vec 2 m.ck) _ ent65 hE5 h5 hv5 (by omega) (by rw [vec_length]; have := f6.out; omega) (by simp [ext_length, vec_length, u16s_length, ksB_length, sniB_length]; have := f1.out; have := f2.out; have := f3.out; have := f4.out; have := f5.out; have := f6.out; omega) (fun w1 v1 zs e1 e2 e3 e4 => fill65 p N q m v1 zs w1 e1 e2 e3 (by have := f6.out; omega) (by omega))).mono ?_
      rintro e w6 ⟨rfl, v6, h6, hw6, hE6, hv6⟩
      have cN60 := cell_of_one hE6.box
      have ch6 := hE6.hello.has
      obtain ⟨ia, in6, ic, ib, iq6, id6, ibb6⟩ := hE6.hello.cid
      cases hhas : m.has with
      | false =>
        rw [hhas] at ch6
        go_wp2
        go_end0
        exact ⟨rfl, v6, by simpa [extsB, hnm, hck', hhas, List.append_assoc] using h6, (((((hw1.trans hw2).trans hw3).trans hw4).trans hw5).trans hw6)⟩
      | true =>
        rw [hhas] at ch6
        have hci := f7.out hhas
        go_wp2_with fail
        refine (wconnectionID p ib v6 _ m.cid ia in6 ic _ h6 id6 (fun hn => ⟨by have := ibb6 hn; omega, fun e => by have := hv6 _ e; have := ibb6 hn; omega⟩) hci (by simp [ext_length, vec_length, u16s_length, ksB_length, sniB_length]; have := f1.out; have := f2.out; have := f3.out; have := f4.out; have := f5.out; have := f6.out; omega)).mono ?_
        rintro e w7 ⟨rfl, v7, h7, hw7⟩
        go_wp2
        go_end0
        exact ⟨rfl, v7, by simpa [extsB, hnm, hck', hhas, List.append_assoc] using h7, (((((hw1.trans hw2).trans hw3).trans hw4).trans hw5).trans hw6).trans hw7⟩
end Go.Proofs.Qxb6615713a
