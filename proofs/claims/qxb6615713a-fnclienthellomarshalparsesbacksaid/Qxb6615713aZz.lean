/- THE SIZE GUARDS laid by program: zzBytes (functions 22 and 33): they return, and write nothing. -/
import Derived.Test.Qxb6615713aTooBig
namespace Go.Proofs.Qxb6615713a
open Go.RowKit
set_option linter.unusedSimpArgs false
set_option linter.unusedVariables false

def ZPost (w : World) (e : Ending) (w' : World) : Prop := ∃ B, e = .returned (.bool B) ∧ Below w.heap.size w w'
theorem ZPost.mk {w w' : World} {e : Ending} {B : Bool} (he : e = .returned (.bool B)) (hb : Below w.heap.size w w') : ZPost w e w' := ⟨B, he, hb⟩

set_option maxHeartbeats 8000000 in
set_option maxRecDepth 100000 in
theorem zzBytes22 (arr : Array Value) (m : CH) (w : World) (hH : HelloAt (w.alloc (.cells arr 42)) (w.heap.size + 1) w.heap.size m) :
    Calls Try.prog 22 #[.agg arr] w fun e w' => ZPost w e w' := by
  have qnm := hH.nm
  obtain ⟨da, dn, dc, db, dq, dd, _⟩ := hH.sid
  obtain ⟨la, ln, lc, lb, lq, ld, _⟩ := hH.lck
  obtain ⟨pa, pn, pc, pb, pq, pd, _⟩ := hH.cmp
  obtain ⟨ca, cn, cc, cb, cq, cd, _⟩ := hH.ck
  obtain ⟨za, zn, zc, zb, zq, zd, _⟩ := hH.cid
  obtain ⟨xa, xn, xc, xb, xq, xd, _⟩ := hH.cs
  obtain ⟨va, vn, vc, vb, vq, vd, _⟩ := hH.sv
  obtain ⟨ga, gn, gc, gb, gq, gd, _⟩ := hH.sg
  obtain ⟨sa, sn, sc, sb, sq, sd, _⟩ := hH.ss
  obtain ⟨ka, kn, kc, kb, kq, kd⟩ := hH.ks
  have HKD : Hid (RdKs _ _ kb ka kn kc m.ks) := kd
  clear hH dd ld pd cd zd xd vd gd sd kd
  have hB : Below w.heap.size w (w.alloc (.cells arr 42)) := (Below.refl w.heap.size w).alloc (Nat.le_refl _) _
  go_enter Try.func22, Try.ntmps22
  go_wp2_with fail
  all_goals (try (go_ret; exact ZPost.mk rfl hB))
  go_loop [3, 4] (fun v i => ∃ (j : Nat) (s : Int), j ≤ kn ∧ i = .int .i64 j ∧ 0 ≤ s ∧ s ≤ 1048576 ∧ v = .int .i64 s) (fun _ i => kn - (intOf i).toNat)
  case atStart => exact ⟨0, _, Nat.zero_le _, rfl, by omega, by omega, rfl⟩
  case round =>
    obtain ⟨j, s, hj, rfl, hs0, hs1, rfl⟩ := hrel
    by_cases hlt : j < kn
    · obtain ⟨o, rfl, hc⟩ := HKD.out.cell (by omega)
      obtain ⟨c1, ua, un, uc, ub, c2, ud, _⟩ := hc j hlt
      clear hc c1 ud
      by_cases hu : (1048576 : Int) < un
      · go_wp2_with fail
        go_ret
        exact ZPost.mk rfl hB
      · by_cases hv : (1048576 : Int) < s + un
        · go_wp2_with fail
          go_ret
          exact ZPost.mk rfl hB
        · go_wp2_with fail
          go_round
          case rel => exact ⟨j + 1, s + un, by omega, by go_num, by omega, by omega, rfl⟩
          case measure => simp [intOf]; omega
    · obtain rfl : j = kn := by omega
      go_wp2_with fail
      all_goals (go_ret; exact ZPost.mk rfl hB)

set_option maxHeartbeats 8000000 in
set_option maxRecDepth 100000 in
theorem zzBytes33 (arr : Array Value) (m : CH) (w : World) (hH : HelloAt (w.alloc (.cells arr 42)) (w.heap.size + 1) w.heap.size m) :
    Calls Try.prog 33 #[.agg arr] w fun e w' => ZPost w e w' := by
  have qnm := hH.nm
  obtain ⟨da, dn, dc, db, dq, dd, _⟩ := hH.sid
  obtain ⟨la, ln, lc, lb, lq, ld, _⟩ := hH.lck
  obtain ⟨pa, pn, pc, pb, pq, pd, _⟩ := hH.cmp
  obtain ⟨ca, cn, cc, cb, cq, cd, _⟩ := hH.ck
  obtain ⟨za, zn, zc, zb, zq, zd, _⟩ := hH.cid
  obtain ⟨xa, xn, xc, xb, xq, xd, _⟩ := hH.cs
  obtain ⟨va, vn, vc, vb, vq, vd, _⟩ := hH.sv
  obtain ⟨ga, gn, gc, gb, gq, gd, _⟩ := hH.sg
  obtain ⟨sa, sn, sc, sb, sq, sd, _⟩ := hH.ss
  obtain ⟨ka, kn, kc, kb, kq, kd⟩ := hH.ks
  have HKD : Hid (RdKs _ _ kb ka kn kc m.ks) := kd
  clear hH dd ld pd cd zd xd vd gd sd kd
  have hB : Below w.heap.size w (w.alloc (.cells arr 42)) := (Below.refl w.heap.size w).alloc (Nat.le_refl _) _
  go_enter Try.func33, Try.ntmps33
  go_wp2_with fail
  all_goals (try (go_ret; exact ZPost.mk rfl hB))
  go_loop [3, 4] (fun v i => ∃ (j : Nat) (s : Int), j ≤ kn ∧ i = .int .i64 j ∧ 0 ≤ s ∧ s ≤ 1048576 ∧ v = .int .i64 s) (fun _ i => kn - (intOf i).toNat)
  case atStart => exact ⟨0, _, Nat.zero_le _, rfl, by omega, by omega, rfl⟩
  case round =>
    obtain ⟨j, s, hj, rfl, hs0, hs1, rfl⟩ := hrel
    by_cases hlt : j < kn
    · obtain ⟨o, rfl, hc⟩ := HKD.out.cell (by omega)
      obtain ⟨c1, ua, un, uc, ub, c2, ud, _⟩ := hc j hlt
      clear hc c1 ud
      by_cases hu : (1048576 : Int) < un
      · go_wp2_with fail
        go_ret
        exact ZPost.mk rfl hB
      · by_cases hv : (1048576 : Int) < s + un
        · go_wp2_with fail
          go_ret
          exact ZPost.mk rfl hB
        · go_wp2_with fail
          go_round
          case rel => exact ⟨j + 1, s + un, by omega, by go_num, by omega, by omega, rfl⟩
          case measure => simp [intOf]; omega
    · obtain rfl : j = kn := by omega
      go_wp2_with fail
      all_goals (go_ret; exact ZPost.mk rfl hB)

end Go.Proofs.Qxb6615713a
