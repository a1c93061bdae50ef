/- chTooBig. -/
import Derived.Test.Qxb6615713aDom
import Derived.BigQuiet
namespace Go.Proofs.Qxb6615713a
open Go.RowKit
set_option linter.unusedSimpArgs false
set_option linter.unusedVariables false

/-- What chTooBig's answer is worth: where it is false, every length is small. -/
def BigPost (m : CH) (w : World) (e : Ending) (w' : World) : Prop := ∃ B, e = .returned (.bool B) ∧ Fr [] w w' ∧ (B = false → Small m)
theorem BigPost.yes {m : CH} {w w' : World} {e : Ending} (he : e = .returned (.bool true)) (hf : Fr [] w w') : BigPost m w e w' := ⟨true, he, hf, fun h => by cases h⟩
theorem BigPost.no {m : CH} {w w' : World} {e : Ending} (he : e = .returned (.bool false)) (hf : Fr [] w w') (hs : Small m) : BigPost m w e w' := ⟨false, he, hf, fun _ => hs⟩

set_option maxHeartbeats 8000000 in
set_option maxRecDepth 100000 in
theorem tooBig (Q p : Nat) (m : CH) (w : World) (hH : HelloAt w p Q m) :
    Calls Try.prog 23 #[.pointer (some ⟨Q, 0, none⟩)] w fun e w' => BigPost m w e w' := by
  have qnm := hH.nm
  obtain ⟨da, dn, dc, db, dq, dd, _⟩ := hH.sid
  have dl := dd.len
  obtain ⟨la, ln, lc, lb, lq, ld, _⟩ := hH.lck
  have ll := ld.len
  obtain ⟨pa, pn, pc, pb, pq, pd, _⟩ := hH.cmp
  have pl := pd.len
  obtain ⟨ca, cn, cc, cb, cq, cd, _⟩ := hH.ck
  have cl := cd.len
  obtain ⟨za, zn, zc, zb, zq, zd, _⟩ := hH.cid
  have zl := zd.len
  obtain ⟨xa, xn, xc, xb, xq, xd, _⟩ := hH.cs
  have xl := xd.len
  obtain ⟨va, vn, vc, vb, vq, vd, _⟩ := hH.sv
  have vl := vd.len
  obtain ⟨ga, gn, gc, gb, gq, gd, _⟩ := hH.sg
  have gl := gd.len
  obtain ⟨sa, sn, sc, sb, sq, sd, _⟩ := hH.ss
  have sl := sd.len
  obtain ⟨ka, kn, kc, kb, kq, kd⟩ := hH.ks
  have kl := kd.len
  have HKD : Hid (RdKs w p kb ka kn kc m.ks) := kd
  clear hH dd ld pd cd zd xd vd gd sd kd
  by_cases h0 : (1048576 : Int) < (dn : Int)
  · go_enter Try.func23, Try.ntmps23
    go_wp2_with fail
    go_ret
    exact ⟨true, rfl, Fr.refl _ _, fun h => by cases h⟩
  by_cases h1 : (1048576 : Int) < (ln : Int)
  · go_enter Try.func23, Try.ntmps23
    go_wp2_with fail
    go_ret
    exact ⟨true, rfl, Fr.refl _ _, fun h => by cases h⟩
  by_cases h2 : (1048576 : Int) < (pn : Int)
  · go_enter Try.func23, Try.ntmps23
    go_wp2_with fail
    go_ret
    exact ⟨true, rfl, Fr.refl _ _, fun h => by cases h⟩
  by_cases h3 : (1048576 : Int) < (m.nm.size : Int)
  · go_enter Try.func23, Try.ntmps23
    go_wp2_with fail
    go_ret
    exact ⟨true, rfl, Fr.refl _ _, fun h => by cases h⟩
  by_cases h4 : (1048576 : Int) < (cn : Int)
  · go_enter Try.func23, Try.ntmps23
    go_wp2_with fail
    go_ret
    exact ⟨true, rfl, Fr.refl _ _, fun h => by cases h⟩
  by_cases h5 : (1048576 : Int) < (zn : Int)
  · go_enter Try.func23, Try.ntmps23
    go_wp2_with fail
    go_ret
    exact ⟨true, rfl, Fr.refl _ _, fun h => by cases h⟩
  by_cases h6 : (131072 : Int) < (xn : Int)
  · go_enter Try.func23, Try.ntmps23
    go_wp2_with fail
    go_ret
    exact ⟨true, rfl, Fr.refl _ _, fun h => by cases h⟩
  by_cases h7 : (131072 : Int) < (vn : Int)
  · go_enter Try.func23, Try.ntmps23
    go_wp2_with fail
    go_ret
    exact ⟨true, rfl, Fr.refl _ _, fun h => by cases h⟩
  by_cases h8 : (131072 : Int) < (gn : Int)
  · go_enter Try.func23, Try.ntmps23
    go_wp2_with fail
    go_ret
    exact ⟨true, rfl, Fr.refl _ _, fun h => by cases h⟩
  by_cases h9 : (131072 : Int) < (sn : Int)
  · go_enter Try.func23, Try.ntmps23
    go_wp2_with fail
    go_ret
    exact ⟨true, rfl, Fr.refl _ _, fun h => by cases h⟩
  by_cases h10 : (32768 : Int) < (kn : Int)
  · go_enter Try.func23, Try.ntmps23
    go_wp2_with fail
    go_ret
    exact ⟨true, rfl, Fr.refl _ _, fun h => by cases h⟩
  go_enter Try.func23, Try.ntmps23
  go_wp2_with fail
  go_quiet (fail)
  go_wp2_with fail
  go_quiet (fail)
  go_wp2_with fail
  · go_ret
    exact BigPost.yes rfl ⟨rfl, rfl, rfl, Nat.le_refl _, fun _ _ _ => rfl⟩
  go_loop [3, 4] (fun v i => ∃ (j : Nat) (s : Int), j ≤ kn ∧ i = .int .i64 j ∧ 0 ≤ s ∧ s ≤ 1048576 ∧ v = .int .i64 s ∧ Hid (∀ t, t < j → (m.ks.getD t (0, [])).2.length ≤ 1048576)) (fun _ i => kn - (intOf i).toNat)
  case atStart => exact ⟨0, _, Nat.zero_le _, rfl, by omega, by assumption, rfl, fun t ht => absurd ht (by omega)⟩
  case round =>
    obtain ⟨j, s, hj, rfl, hs0, hs1, rfl, hK⟩ := hrel
    by_cases hlt : j < kn
    · obtain ⟨o, rfl, hc⟩ := HKD.out.cell (by omega)
      obtain ⟨c1, ua, un, uc, ub, c2, ud, _⟩ := hc j hlt
      have ul := ud.len
      clear hc c1 ud
      by_cases hu : (1048576 : Int) < un
      · go_wp2_with fail
        go_ret
        exact BigPost.yes rfl ⟨rfl, rfl, rfl, Nat.le_refl _, fun _ _ _ => rfl⟩
      · by_cases hv : (1048576 : Int) < s + un
        · go_wp2_with fail
          go_ret
          exact BigPost.yes rfl ⟨rfl, rfl, rfl, Nat.le_refl _, fun _ _ _ => rfl⟩
        · have HK2 : Hid (∀ t, t < j + 1 → (m.ks.getD t (0, [])).2.length ≤ 1048576) := fun t ht => by
            by_cases e : t = j
            · subst e; rw [ul]; omega
            · exact hK.out t (by omega)
          go_wp2_with fail
          go_round
          case rel => exact ⟨j + 1, s + un, by omega, by go_num, by omega, by omega, rfl, HK2⟩
          case measure => simp [intOf]; omega
    · obtain rfl : j = kn := by omega
      have R : Small m := by
        refine ⟨by omega, by omega, by omega, by omega, by omega, by omega, by omega, by omega, fun x hx => ?_, by omega, by omega, by omega⟩
        obtain ⟨t, ht, rfl⟩ := List.mem_iff_getElem.1 hx
        have := hK.out t (by omega)
        simpa [List.getD, ht] using this
      have HR : Hid _ := R
      clear R
      go_wp2_with fail
      go_ret
      exact BigPost.no rfl ⟨rfl, rfl, rfl, Nat.le_refl _, fun _ _ _ => rfl⟩ HR.out
end Go.Proofs.Qxb6615713a
