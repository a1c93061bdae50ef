/- THE WALK of buildClientHello. -/
import Derived.Test.Qxb6615713aBuildA
import Derived.Deep.RegionHeld3
import Derived.Deep.DeepCutAuto
namespace Go.Proofs.Qxb6615713a
open Go.RowKit
set_option linter.unusedSimpArgs false
set_option linter.unusedVariables false

set_option maxHeartbeats 8000000 in
set_option maxRecDepth 100000 in
theorem build (Q : Nat) (m : CH) (hc : Bool) (w : World) (hH : HelloAt w w.heap.size Q m) (hS : Small m) :
    Calls Try.prog 25 #[.pointer (some ⟨Q, 0, none⟩), .bool hc] w fun e w' => e = .returned (.pointer (some ⟨w.heap.size, 0, none⟩)) ∧ HelloAt w' w'.heap.size w.heap.size { m with has := hc } ∧ Below w.heap.size w w' := by
  have cv := hH.ver
  have hq := hH.qp
  have hrl := hH.rndL
  have hrr : ∀ o, (w.alloc o).rangeAt Q 1 (bv m.rnd) := fun o j v hv => (((Below.refl w.heap.size w).alloc (Nat.le_refl _) o).cell (p := ⟨Q, 1 + j, none⟩) hq).trans (hH.rndRange j v hv)
  have hnq := fun (w : World) (a : Option Addr) (n c : Nat) => run_neq_slice_nil_any (P := Try.prog) w 39 37 a n c 0 0 Try.underlying39
  have hnk := fun (w : World) (a : Option Addr) (n c : Nat) => run_neq_slice_nil_any (P := Try.prog) w 40 85 a n c 0 0 Try.underlying40
  have HS : Hid (Small m) := hS
  have HV : Hid (0 ≤ m.ver ∧ m.ver ≤ 65535) := hH.verB
  have HR : Hid (∀ x ∈ m.rnd, 0 ≤ x ∧ x ≤ 255) := hH.rndB
  have HNL : Hid (m.nm.size ≤ maxLen) := hH.nmL
  have HC : Hid (∀ arr : Array Value, arr.size = 45 → CAt (w.alloc (.cells arr 90)) w.heap.size (fun j => arr.getD j undef)) := fun arr h => CAt.new w arr h
  have HH : Hid (HelloAt w w.heap.size Q m) := hH
  clear hS hH
  go_enter Try.func25, Try.ntmps25
  go_wp2_with (first | (refine wpList_load_mid rfl 38 _ rfl Q 1 rfl (bv m.rnd) _ (hrr _) Try.underlying38 rfl (by rw [Try.info38, bv_length, hrl]) ?_) | (refine wpList_store_rnd rfl _ _ rfl w.heap.size _ (bv m.rnd) rfl rfl (HC.out _ rfl) (by rw [bv_length, hrl]) (bv_one _) ?_))
  intro w1 hC1 hL1
  have hlow : Below w.heap.size w w1 := ((Below.refl w.heap.size w).alloc (Nat.le_refl _) _).trans (hL1 _ (Nat.le_refl _))
  have h1 : BS w w1 w.heap.size Q m _ [] [] := ⟨rfl, hC1, HH.out.below hlow, hlow, (fun x hx => by cases hx), (fun x hx => by cases hx)⟩
  clear hC1 hL1 HC hrr cv HH hlow
  obtain ⟨c1, kc1, h2⟩ : ∃ c : Nat → Value, CK m [39, 40, 41] false c ∧ BS w w1 w.heap.size Q m c [] [] := by
    refine ⟨_, ⟨?_, ?_, ?_, fun h => by cases h⟩, h1⟩
    · simp [updR]
    · intro i hi
      simp only [updR, bv_length, hrl]
      rw [if_pos (by omega)]
      simp [bv, List.getD, show i < m.rnd.length by omega]
    · intro i hi
      simp only [List.mem_cons, List.mem_nil_iff, or_false] at hi
      rcases hi with rfl | rfl | rfl <;> simp [updR, bv_length, hrl]
  clear h1
  generalize hqq : w.heap.size = q at *
  have HQQ : Hid (w.heap.size = q) := hqq
  clear hqq
  have hQq : ¬ Q = q := by omega
  obtain ⟨a33, n33, k33, b33, x33, d33, l33⟩ := h2.inp.sid
  have j33 := d33.len
  have r33 := d33
  go_wp2_with fail
  refine (clone_any b33 a33 n33 k33 m.sid _ r33 (by have := HS.out.sid; omega)).mono ?_
  rintro e w3 ⟨e33, rfl, f33, g33⟩
  have hF3 := h2.fr g33
  obtain ⟨V33, y33⟩ : ∃ V, w3.cell? ⟨q, 33, none⟩ = some V := ⟨_, (hF3.cat.2 33 (by omega)).1⟩
  have z33 := (hF3.cat.2 33 (by omega)).2
  obtain ⟨c3, kc3, h3⟩ : ∃ c, CK m [39, 40, 41] false c ∧ BS w (w3.setCell ⟨q, 33, none⟩ (.slice e33 n33 n33)) q Q m c [(33, m.sid)] [] := ⟨_, kc1.upd 33 _ (by omega) (by simp) (by omega), h2.putB 33 (by omega) e33 n33 n33 m.sid g33 f33 (by simp) (by simp)⟩
  clear x33 d33 l33 r33 j33 f33 g33 h2 kc1
  obtain ⟨a34, n34, k34, b34, x34, d34, l34⟩ := hF3.inp.lck
  have j34 := d34.len
  have r34 := d34.move (fun hn => (h3.low.block _ (l34 hn)).trans (hF3.low.block _ (l34 hn)).symm)
  go_wp2_with fail
  refine (clone_any b34 a34 n34 k34 m.lck _ r34 (by have := HS.out.lck; omega)).mono ?_
  rintro e w4 ⟨e34, rfl, f34, g34⟩
  have hF4 := h3.fr g34
  obtain ⟨V34, y34⟩ : ∃ V, w4.cell? ⟨q, 34, none⟩ = some V := ⟨_, (hF4.cat.2 34 (by omega)).1⟩
  have z34 := (hF4.cat.2 34 (by omega)).2
  obtain ⟨c4, kc4, h4⟩ : ∃ c, CK m [39, 40, 41] false c ∧ BS w (w4.setCell ⟨q, 34, none⟩ (.slice e34 n34 n34)) q Q m c [(34, m.lck), (33, m.sid)] [] := ⟨_, kc3.upd 34 _ (by omega) (by simp) (by omega), h3.putB 34 (by omega) e34 n34 n34 m.lck g34 f34 (by simp) (by simp)⟩
  clear x34 d34 l34 r34 j34 f34 g34 h3 hF3 y33 z33 kc3
  obtain ⟨a35, n35, k35, b35, x35, d35, l35⟩ := hF4.inp.cs
  have j35 := d35.len
  have r35 := d35.move (fun hn => (h4.low.block _ (l35 hn)).trans (hF4.low.block _ (l35 hn)).symm)
  go_wp2_with fail
  refine (clone16_any b35 a35 n35 k35 m.cs _ r35 (by have := HS.out.cs; omega)).mono ?_
  rintro e w5 ⟨e35, rfl, f35, g35⟩
  have hF5 := h4.fr g35
  obtain ⟨V35, y35⟩ : ∃ V, w5.cell? ⟨q, 35, none⟩ = some V := ⟨_, (hF5.cat.2 35 (by omega)).1⟩
  have z35 := (hF5.cat.2 35 (by omega)).2
  obtain ⟨c5, kc5, h5⟩ : ∃ c, CK m [39, 40, 41] false c ∧ BS w (w5.setCell ⟨q, 35, none⟩ (.slice e35 n35 n35)) q Q m c [(34, m.lck), (33, m.sid)] [(35, m.cs)] := ⟨_, kc4.upd 35 _ (by omega) (by simp) (by omega), h4.putU 35 (by omega) e35 n35 n35 m.cs g35 f35 (by simp) (by simp)⟩
  clear x35 d35 l35 r35 j35 f35 g35 h4 hF4 y34 z34 kc4
  obtain ⟨a36, n36, k36, b36, x36, d36, l36⟩ := hF5.inp.cmp
  have j36 := d36.len
  have r36 := d36.move (fun hn => (h5.low.block _ (l36 hn)).trans (hF5.low.block _ (l36 hn)).symm)
  go_wp2_with fail
  refine (clone_any b36 a36 n36 k36 m.cmp _ r36 (by have := HS.out.cmp; omega)).mono ?_
  rintro e w6 ⟨e36, rfl, f36, g36⟩
  have hF6 := h5.fr g36
  obtain ⟨V36, y36⟩ : ∃ V, w6.cell? ⟨q, 36, none⟩ = some V := ⟨_, (hF6.cat.2 36 (by omega)).1⟩
  have z36 := (hF6.cat.2 36 (by omega)).2
  obtain ⟨c6, kc6, h6⟩ : ∃ c, CK m [39, 40, 41] false c ∧ BS w (w6.setCell ⟨q, 36, none⟩ (.slice e36 n36 n36)) q Q m c [(36, m.cmp), (34, m.lck), (33, m.sid)] [(35, m.cs)] := ⟨_, kc5.upd 36 _ (by omega) (by simp) (by omega), h5.putB 36 (by omega) e36 n36 n36 m.cmp g36 f36 (by simp) (by simp)⟩
  clear x36 d36 l36 r36 j36 f36 g36 h5 hF5 y35 z35 kc5
  have x37 := hF6.inp.nm
  obtain ⟨V37, y37⟩ : ∃ V, w6.cell? ⟨q, 37, none⟩ = some V := ⟨_, (hF6.cat.2 37 (by omega)).1⟩
  have z37 := (hF6.cat.2 37 (by omega)).2
  have h6b := h6.set 37 (by omega) (.string m.nm) (by simp) (by simp)
  have kc6b := kc6.name (by simp)
  obtain ⟨a38, n38, k38, b38, x38, d38, l38⟩ := hF6.inp.sv
  have j38 := d38.len
  have r38 := d38.move (fun hn => (h6b.low.block _ (l38 hn)).trans (hF6.low.block _ (l38 hn)).symm)
  go_wp2_with fail
  refine (clone16_any b38 a38 n38 k38 m.sv _ r38 (by have := HS.out.sv; omega)).mono ?_
  rintro e w7 ⟨e38, rfl, f38, g38⟩
  have hF7 := h6b.fr g38
  obtain ⟨V38, y38⟩ : ∃ V, w7.cell? ⟨q, 38, none⟩ = some V := ⟨_, (hF7.cat.2 38 (by omega)).1⟩
  have z38 := (hF7.cat.2 38 (by omega)).2
  obtain ⟨c7, kc7, h7⟩ : ∃ c, CK m [39, 40, 41] true c ∧ BS w (w7.setCell ⟨q, 38, none⟩ (.slice e38 n38 n38)) q Q m c [(36, m.cmp), (34, m.lck), (33, m.sid)] [(38, m.sv), (35, m.cs)] := ⟨_, kc6b.upd 38 _ (by omega) (by simp) (by omega), h6b.putU 38 (by omega) e38 n38 n38 m.sv g38 f38 (by simp) (by simp)⟩
  clear x38 d38 l38 r38 j38 f38 g38 h6 h6b hF6 y36 z36 x37 y37 z37 kc6 kc6b
  obtain ⟨a39, n39, k39, b39, x39, d39, l39⟩ := hF7.inp.sg
  have j39 := d39.len
  obtain ⟨V39, y39⟩ : ∃ V, w7.cell? ⟨q, 39, none⟩ = some V := ⟨_, (hF7.cat.2 39 (by omega)).1⟩
  have z39 := (hF7.cat.2 39 (by omega)).2
  go_upto_if 76 with fail
  go_cut [] (fun wc => ∃ c, CK m [40, 41] true c ∧ BS w wc q Q m c [(36, m.cmp), (34, m.lck), (33, m.sid)] ((39, m.sg) :: [(38, m.sv), (35, m.cs)]))
  case first =>
    cases a39 with
    | none =>
      go_wp2
      go_meet
      case rel =>
        have h0 := d39.nil rfl
        have h0' := d39.cap
        have hE : m.sg = [] := List.length_eq_zero_iff.1 (by omega)
        refine ⟨_, kc7.less, BS.addU h7 39 m.sg ?_⟩
        rw [hE, kc7.nil 39 (by simp)]
        exact ⟨none, 0, 0, 0, rfl, Rd16.empty _ _, fun h => absurd h (by omega)⟩
    | some x =>
      obtain ⟨i0, hi, hz0, hz1, hz2⟩ := info_parts Try.info92
      have hbd : n39 ≤ 1048576 := by have := HS.out.sg; omega
      go_wp2_with (at_make; refine wpList_make_full _ rfl _ _ 86 rfl _ 92 i0 (.int .u16 0) 1 Try.underlying86 hi hz0 hz1 .i64 .i64 n39 n39 n39 rfl rfl rfl rfl ?b139 ?b239 (Nat.le_refl _) ?_)
      case b139 => rw [hz2]; omega
      case b239 => unfold maxLen; omega
      intro w8 hown hgr
      rw [show (madeCells #[Value.int .u16 0] n39).toList = ((m.sg.take 0 ++ List.replicate (n39 - 0) 0).map (Value.int .u16)) from by rw [toList_madeCells_one]; simp] at hown
      have hgs : (w7.setCell ⟨q, 38, none⟩ (.slice e38 n38 n38)).heap.size = w7.heap.size := by first | rfl | simp [World.setCell]
      have hq7 : q < w7.heap.size := hF7.cat.1
      have h8 := h7.fr (Fr.grown hgr [])
      obtain ⟨V8, y8⟩ : ∃ V, w8.cell? ⟨q, 39, none⟩ = some V := ⟨_, (h8.cat.2 39 (by omega)).1⟩
      have z8 := (h8.cat.2 39 (by omega)).2
      have x8 : w8.cell? ⟨Q, 39, none⟩ = some (.slice (some x) n39 k39) := (h8.low.cell (p := ⟨Q, 39, none⟩) hq).trans ((hF7.low.cell (p := ⟨Q, 39, none⟩) hq).symm.trans x39)
      have hb8 : Below w7.heap.size (w7.setCell ⟨q, 38, none⟩ (.slice e38 n38 n38)) w8 := ⟨hgr.os, hgr.tape, hgr.output, hgr.size, fun k hk => hgr.block k (by rw [hgs]; exact hk) (by simp)⟩
      have hSn := h7.set 39 (by omega) (.slice (some ⟨w7.heap.size, 0, none⟩) n39 n39) (by simp) (by simp)
      have hSz : ((w7.setCell ⟨q, 38, none⟩ (.slice e38 n38 n38)).setCell ⟨q, 39, none⟩ (.slice (some ⟨w7.heap.size, 0, none⟩) n39 n39)).heap.size = w7.heap.size := by simp [World.setCell]
      have kc8 := kc7.less.upd 39 (.slice (some ⟨w7.heap.size, 0, none⟩) n39 n39) (by omega) (by simp) (by omega)
      have hbS := Below.setBoth hb8 ⟨q, 39, none⟩ (.slice (some ⟨w7.heap.size, 0, none⟩) n39 n39)
      have hown2 := ownsRow_setCell_other hown (a := ⟨q, 39, none⟩) (by simp [Value.ownBlock]; omega) (.slice (some ⟨w7.heap.size, 0, none⟩) n39 n39)
      obtain ⟨S, hSdef⟩ : ∃ S, S = (w7.setCell ⟨q, 38, none⟩ (.slice e38 n38 n38)).setCell ⟨q, 39, none⟩ (.slice (some ⟨w7.heap.size, 0, none⟩) n39 n39) := ⟨_, rfl⟩
      rw [← hSdef] at hSn hSz hbS
      obtain ⟨C8, hC8⟩ : ∃ C, C = upd c7 39 (.slice (some ⟨w7.heap.size, 0, none⟩) n39 n39) := ⟨_, rfl⟩
      have hCo : C8 39 = .slice (some ⟨w7.heap.size, 0, none⟩) n39 n39 := by rw [hC8]; exact if_pos rfl
      rw [← hC8] at hSn kc8
      have HCO : Hid (C8 39 = .slice (some ⟨w7.heap.size, 0, none⟩) n39 n39) := hCo
      have HSZ : Hid (S.heap.size = w7.heap.size) := hSz
      have X8 : Hid (w7.cell? ⟨Q, 39, none⟩ = some (.slice (some x) n39 k39)) := x39
      have LOW7 : Hid (Below q w w7) := hF7.low
      have HOWN : Hid _ := hown2
      have HBS : Hid _ := hbS
      have hwf := d39.wf
      have hcel := d39.cell
      generalize w7.heap.size = G at *
      clear hown hgr h8 hb8 hgs hSdef hC8 hCo hSz hown2 hbS x39 d39 h7 hF7
      go_wp2_with fail
      clear x8 y8 z8 y38 z38 y39 z39
      go_loopw [6] (fun i wr => ∃ j : Nat, j ≤ n39 ∧ i = .int .i64 j ∧ wr.ownsRow G 92 1 (.slice (some ⟨G, 0, none⟩) n39 n39) n39 ((m.sg.take j ++ List.replicate (n39 - j) 0).map (Value.int .u16)) ∧ Below G S wr) (fun i _ => n39 - (intOf i).toNat)
      case atStart => exact ⟨0, Nat.zero_le _, rfl, HOWN.out, HBS.out⟩
      case round =>
        obtain ⟨j, hj, rfl, ho, hbe⟩ := hrel
        have hB : BS w wr q Q m C8 [(36, m.cmp), (34, m.lck), (33, m.sid)] [(38, m.sv), (35, m.cs)] := hSn.up (by rw [HSZ.out]; exact hbe)
        have xq := (hB.low.cell (p := ⟨Q, 39, none⟩) hq).trans ((LOW7.out.cell (p := ⟨Q, 39, none⟩) hq).symm.trans X8.out)
        have yq := (hB.cat.2 39 (by omega)).1
        have zq := (hB.cat.2 39 (by omega)).2
        rw [HCO.out] at yq
        by_cases hlt : j < n39
        · obtain ⟨o1, hx, hcell⟩ := hcel (by omega)
          obtain rfl : x = ⟨b39, o1, none⟩ := by simpa using hx
          have bq := l39 (by omega)
          have e1 : wr.cell? ⟨b39, o1 + j, none⟩ = some (.int .u16 (m.sg.getD j 0)) := (hB.low.cell (p := ⟨b39, o1 + j, none⟩) bq).trans ((LOW7.out.cell (p := ⟨b39, o1 + j, none⟩) bq).symm.trans (hcell j hlt))
          have e2 := (ho.cellAt j (by omega)).trans (rep_at16 m.sg n39 j j39 hlt)
          have e3 := ho.frozenAt j
          have hs := ho.stored j (.int .u16 (m.sg.getD j 0))
          rw [set_take_rep16 m.sg n39 j j39 hlt] at hs
          have hb2 : Below G S (wr.setCell ⟨G, j, none⟩ (.int .u16 (m.sg.getD j 0))) := hbe.setCell (Nat.le_refl _) _
          have HS2 : Hid _ := hs.1
          have HB2 : Hid _ := hb2
          clear hcell hs hb2 ho hbe hB
          generalize m.sg.getD j 0 = y at *
          go_wp2_with fail
          go_region
          all_goals (try go_wp2_with fail)
          go_roundw
          case rel => exact ⟨j + 1, by omega, by go_num, HS2.out, HB2.out.drew⟩
          case measure => simp [intOf]; omega
        · obtain rfl : j = n39 := by omega
          rw [List.take_of_length_le (by omega), Nat.sub_self, List.replicate_zero, List.append_nil] at ho
          have R : BS w wr q Q m C8 [(36, m.cmp), (34, m.lck), (33, m.sid)] ((39, m.sg) :: [(38, m.sv), (35, m.cs)]) := hB.addU 39 m.sg (by rw [HCO.out]; exact UOf.of_own ho j39 (by unfold maxLen; omega) hwf (by omega))
          have HRR : Hid _ := R
          clear R hB ho hbe
          go_wp2_with fail
          go_meet
          case rel => exact ⟨C8, kc8, HRR.out⟩
  case rest =>
    obtain ⟨c9, kc9, h9⟩ := hcut
    clear hF7 h7 kc7 y38 z38 x39 d39 l39 j39 y39 z39
    obtain ⟨w9, rfl⟩ : ∃ x : World, x = wc := ⟨_, rfl⟩
    obtain ⟨a40, n40, k40, b40, x40, d40, l40⟩ := h9.inp.ss
    have j40 := d40.len
    obtain ⟨V40, y40⟩ : ∃ V, w9.cell? ⟨q, 40, none⟩ = some V := ⟨_, (h9.cat.2 40 (by omega)).1⟩
    have z40 := (h9.cat.2 40 (by omega)).2
    go_upto_if 112 with fail
    go_cut [] (fun wc => ∃ c, CK m [41] true c ∧ BS w wc q Q m c [(36, m.cmp), (34, m.lck), (33, m.sid)] ((40, m.ss) :: [(39, m.sg), (38, m.sv), (35, m.cs)]))
    case first =>
      cases a40 with
      | none =>
        go_wp2
        go_meet
        case rel =>
          have h0 := d40.nil rfl
          have h0' := d40.cap
          have hE : m.ss = [] := List.length_eq_zero_iff.1 (by omega)
          refine ⟨_, kc9.less, BS.addU h9 40 m.ss ?_⟩
          rw [hE, kc9.nil 40 (by simp)]
          exact ⟨none, 0, 0, 0, rfl, Rd16.empty _ _, fun h => absurd h (by omega)⟩
      | some x =>
        obtain ⟨i0, hi, hz0, hz1, hz2⟩ := info_parts Try.info93
        have hbd : n40 ≤ 1048576 := by have := HS.out.ss; omega
        go_wp2_with (at_make; refine wpList_make_full _ rfl _ _ 87 rfl _ 93 i0 (.int .u16 0) 1 Try.underlying87 hi hz0 hz1 .i64 .i64 n40 n40 n40 rfl rfl rfl rfl ?b140 ?b240 (Nat.le_refl _) ?_)
        case b140 => rw [hz2]; omega
        case b240 => unfold maxLen; omega
        intro w10 hown hgr
        rw [show (madeCells #[Value.int .u16 0] n40).toList = ((m.ss.take 0 ++ List.replicate (n40 - 0) 0).map (Value.int .u16)) from by rw [toList_madeCells_one]; simp] at hown
        have hgs : (w9).heap.size = w9.heap.size := by first | rfl | simp [World.setCell]
        have hq7 : q < w9.heap.size := h9.cat.1
        have h8 := h9.fr (Fr.grown hgr [])
        obtain ⟨V8, y8⟩ : ∃ V, w10.cell? ⟨q, 40, none⟩ = some V := ⟨_, (h8.cat.2 40 (by omega)).1⟩
        have z8 := (h8.cat.2 40 (by omega)).2
        have x8 : w10.cell? ⟨Q, 40, none⟩ = some (.slice (some x) n40 k40) := (h8.low.cell (p := ⟨Q, 40, none⟩) hq).trans ((h9.low.cell (p := ⟨Q, 40, none⟩) hq).symm.trans x40)
        have hb8 : Below w9.heap.size (w9) w10 := ⟨hgr.os, hgr.tape, hgr.output, hgr.size, fun k hk => hgr.block k (by rw [hgs]; exact hk) (by simp)⟩
        have hSn := h9.set 40 (by omega) (.slice (some ⟨w9.heap.size, 0, none⟩) n40 n40) (by simp) (by simp)
        have hSz : ((w9).setCell ⟨q, 40, none⟩ (.slice (some ⟨w9.heap.size, 0, none⟩) n40 n40)).heap.size = w9.heap.size := by simp [World.setCell]
        have kc8 := kc9.less.upd 40 (.slice (some ⟨w9.heap.size, 0, none⟩) n40 n40) (by omega) (by simp) (by omega)
        have hbS := Below.setBoth hb8 ⟨q, 40, none⟩ (.slice (some ⟨w9.heap.size, 0, none⟩) n40 n40)
        have hown2 := ownsRow_setCell_other hown (a := ⟨q, 40, none⟩) (by simp [Value.ownBlock]; omega) (.slice (some ⟨w9.heap.size, 0, none⟩) n40 n40)
        obtain ⟨S, hSdef⟩ : ∃ S, S = (w9).setCell ⟨q, 40, none⟩ (.slice (some ⟨w9.heap.size, 0, none⟩) n40 n40) := ⟨_, rfl⟩
        rw [← hSdef] at hSn hSz hbS
        obtain ⟨C8, hC8⟩ : ∃ C, C = upd c9 40 (.slice (some ⟨w9.heap.size, 0, none⟩) n40 n40) := ⟨_, rfl⟩
        have hCo : C8 40 = .slice (some ⟨w9.heap.size, 0, none⟩) n40 n40 := by rw [hC8]; exact if_pos rfl
        rw [← hC8] at hSn kc8
        have HCO : Hid (C8 40 = .slice (some ⟨w9.heap.size, 0, none⟩) n40 n40) := hCo
        have HSZ : Hid (S.heap.size = w9.heap.size) := hSz
        have X8 : Hid (w9.cell? ⟨Q, 40, none⟩ = some (.slice (some x) n40 k40)) := x40
        have LOW7 : Hid (Below q w w9) := h9.low
        have HOWN : Hid _ := hown2
        have HBS : Hid _ := hbS
        have hwf := d40.wf
        have hcel := d40.cell
        generalize w9.heap.size = G at *
        clear hown hgr h8 hb8 hgs hSdef hC8 hCo hSz hown2 hbS x40 d40 h9
        go_wp2_with fail
        clear x8 y8 z8  y40 z40
        go_loopw [7] (fun i wr => ∃ j : Nat, j ≤ n40 ∧ i = .int .i64 j ∧ wr.ownsRow G 93 1 (.slice (some ⟨G, 0, none⟩) n40 n40) n40 ((m.ss.take j ++ List.replicate (n40 - j) 0).map (Value.int .u16)) ∧ Below G S wr) (fun i _ => n40 - (intOf i).toNat)
        case atStart => exact ⟨0, Nat.zero_le _, rfl, HOWN.out, HBS.out⟩
        case round =>
          obtain ⟨j, hj, rfl, ho, hbe⟩ := hrel
          have hB : BS w wr q Q m C8 [(36, m.cmp), (34, m.lck), (33, m.sid)] [(39, m.sg), (38, m.sv), (35, m.cs)] := hSn.up (by rw [HSZ.out]; exact hbe)
          have xq := (hB.low.cell (p := ⟨Q, 40, none⟩) hq).trans ((LOW7.out.cell (p := ⟨Q, 40, none⟩) hq).symm.trans X8.out)
          have yq := (hB.cat.2 40 (by omega)).1
          have zq := (hB.cat.2 40 (by omega)).2
          rw [HCO.out] at yq
          by_cases hlt : j < n40
          · obtain ⟨o1, hx, hcell⟩ := hcel (by omega)
            obtain rfl : x = ⟨b40, o1, none⟩ := by simpa using hx
            have bq := l40 (by omega)
            have e1 : wr.cell? ⟨b40, o1 + j, none⟩ = some (.int .u16 (m.ss.getD j 0)) := (hB.low.cell (p := ⟨b40, o1 + j, none⟩) bq).trans ((LOW7.out.cell (p := ⟨b40, o1 + j, none⟩) bq).symm.trans (hcell j hlt))
            have e2 := (ho.cellAt j (by omega)).trans (rep_at16 m.ss n40 j j40 hlt)
            have e3 := ho.frozenAt j
            have hs := ho.stored j (.int .u16 (m.ss.getD j 0))
            rw [set_take_rep16 m.ss n40 j j40 hlt] at hs
            have hb2 : Below G S (wr.setCell ⟨G, j, none⟩ (.int .u16 (m.ss.getD j 0))) := hbe.setCell (Nat.le_refl _) _
            have HS2 : Hid _ := hs.1
            have HB2 : Hid _ := hb2
            clear hcell hs hb2 ho hbe hB
            generalize m.ss.getD j 0 = y at *
            go_wp2_with fail
            go_region
            all_goals (try go_wp2_with fail)
            go_roundw
            case rel => exact ⟨j + 1, by omega, by go_num, HS2.out, HB2.out.drew⟩
            case measure => simp [intOf]; omega
          · obtain rfl : j = n40 := by omega
            rw [List.take_of_length_le (by omega), Nat.sub_self, List.replicate_zero, List.append_nil] at ho
            have R : BS w wr q Q m C8 [(36, m.cmp), (34, m.lck), (33, m.sid)] ((40, m.ss) :: [(39, m.sg), (38, m.sv), (35, m.cs)]) := hB.addU 40 m.ss (by rw [HCO.out]; exact UOf.of_own ho j40 (by unfold maxLen; omega) hwf (by omega))
            have HRR : Hid _ := R
            clear R hB ho hbe
            go_wp2_with fail
            go_meet
            case rel => exact ⟨C8, kc8, HRR.out⟩
    case rest =>
      obtain ⟨c11, kc11, h11⟩ := hcut
      clear h9 kc9 x40 d40 l40 j40 y40 z40
      obtain ⟨w11, rfl⟩ : ∃ x : World, x = wc := ⟨_, rfl⟩
      obtain ⟨a41, n41, k41, b41, x41, d41⟩ := h11.inp.ks
      have j41 := d41.len
      obtain ⟨V41, y41⟩ : ∃ V, w11.cell? ⟨q, 41, none⟩ = some V := ⟨_, (h11.cat.2 41 (by omega)).1⟩
      have z41 := (h11.cat.2 41 (by omega)).2
      go_upto_if 148 with fail
      go_cut [] (fun wc => ∃ c, CK m [] true c ∧ BS w wc q Q m c [(36, m.cmp), (34, m.lck), (33, m.sid)] [(40, m.ss), (39, m.sg), (38, m.sv), (35, m.cs)] ∧ KOf wc q (c 41) m.ks)
      case first =>
        cases a41 with
        | none =>
          go_wp2
          go_meet
          case rel =>
            have h0 := d41.nil rfl
            have h0' := d41.cap
            have hE : m.ks = [] := List.length_eq_zero_iff.1 (by omega)
            exact ⟨_, kc11.less, h11, .inl ⟨kc11.nil 41 (by simp), hE⟩⟩
        | some x =>
          obtain ⟨i0, hi, hz0, hz1, hz2⟩ := info_parts Try.info95
          have hbd : n41 ≤ 1048576 := by have := HS.out.ks; omega
          go_wp2_with (at_make; refine wpList_make_full _ rfl _ _ 88 rfl _ 95 i0 (.agg #[.int .u16 0, .slice none 0 0]) 2 Try.underlying88 hi hz0 hz1 .i64 .i64 n41 n41 n41 rfl rfl rfl rfl ?b141 ?b241 (Nat.le_refl _) ?_)
          case b141 => rw [hz2]; omega
          case b241 => unfold maxLen; omega
          intro w12 hown hgr
          have hq11 : q < w11.heap.size := h11.cat.1
          have h12 := h11.fr (Fr.grown hgr [])
          obtain ⟨V8, y8⟩ : ∃ V, w12.cell? ⟨q, 41, none⟩ = some V := ⟨_, (h12.cat.2 41 (by omega)).1⟩
          have z8 := (h12.cat.2 41 (by omega)).2
          have x8 : w12.cell? ⟨Q, 41, none⟩ = some (.slice (some x) n41 k41) := (h12.low.cell (p := ⟨Q, 41, none⟩) hq).trans ((h11.low.cell (p := ⟨Q, 41, none⟩) hq).symm.trans x41)
          have hb8 : Below w11.heap.size w11 w12 := ⟨hgr.os, hgr.tape, hgr.output, hgr.size, fun k hk => hgr.block k hk (by simp)⟩
          have hSn := h11.set 41 (by omega) (.slice (some ⟨w11.heap.size, 0, none⟩) n41 n41) (by simp) (by simp)
          have hSz : (w11.setCell ⟨q, 41, none⟩ (.slice (some ⟨w11.heap.size, 0, none⟩) n41 n41)).heap.size = w11.heap.size := by simp [World.setCell]
          have kc8 := kc11.less.upd 41 (.slice (some ⟨w11.heap.size, 0, none⟩) n41 n41) (by omega) (by simp) (by omega)
          have hbS := Below.setBoth hb8 ⟨q, 41, none⟩ (.slice (some ⟨w11.heap.size, 0, none⟩) n41 n41)
          have hown2 := ownsRow_setCell_other hown (a := ⟨q, 41, none⟩) (by simp [Value.ownBlock]; omega) (.slice (some ⟨w11.heap.size, 0, none⟩) n41 n41)
          obtain ⟨S, hSdef⟩ : ∃ S, S = w11.setCell ⟨q, 41, none⟩ (.slice (some ⟨w11.heap.size, 0, none⟩) n41 n41) := ⟨_, rfl⟩
          rw [← hSdef] at hSn hSz hbS
          obtain ⟨C8, hC8⟩ : ∃ C, C = upd c11 41 (.slice (some ⟨w11.heap.size, 0, none⟩) n41 n41) := ⟨_, rfl⟩
          have hCo : C8 41 = .slice (some ⟨w11.heap.size, 0, none⟩) n41 n41 := by rw [hC8]; exact if_pos rfl
          rw [← hC8] at hSn kc8
          have HCO : Hid (C8 41 = .slice (some ⟨w11.heap.size, 0, none⟩) n41 n41) := hCo
          have HSZ : Hid (S.heap.size = w11.heap.size) := hSz
          have X8 : Hid (w11.cell? ⟨Q, 41, none⟩ = some (.slice (some x) n41 k41)) := x41
          have LOW7 : Hid (Below q w w11) := h11.low
          have HOWN : Hid (∃ xs, (w12.setCell ⟨q, 41, none⟩ (.slice (some ⟨w11.heap.size, 0, none⟩) n41 n41)).ownsRow w11.heap.size 95 2 (.slice (some ⟨w11.heap.size, 0, none⟩) n41 n41) n41 xs) := ⟨_, hown2⟩
          have HBS : Hid _ := hbS
          have HKS : Hid (RdKs w11 q b41 (some x) n41 k41 m.ks) := d41
          generalize w11.heap.size = G at *
          clear hown hgr h12 hb8 hSdef hC8 hCo hSz hown2 hbS x41 d41 h11
          go_wp2_with fail
          clear x8 y8 z8 y41 z41
          go_loopw [8] (fun i wr => ∃ j : Nat, j ≤ n41 ∧ i = .int .i64 j ∧ (∃ xs, wr.ownsRow G 95 2 (.slice (some ⟨G, 0, none⟩) n41 n41) n41 xs) ∧ Below G S wr ∧ G < wr.heap.size ∧ ∀ i, i < j → KE wr G i (m.ks.getD i (0, []))) (fun i _ => n41 - (intOf i).toNat)
          case atStart => exact ⟨0, Nat.zero_le _, rfl, HOWN.out, HBS.out, by obtain ⟨xs, h⟩ := HOWN.out; exact (h.lt G rfl).2, fun i hi => absurd hi (by omega)⟩
          case round =>
            obtain ⟨j, hj, rfl, ho, hbe, hGw, hke⟩ := hrel
            obtain ⟨xs, ho⟩ := ho
            have hB : BS w wr q Q m C8 [(36, m.cmp), (34, m.lck), (33, m.sid)] [(40, m.ss), (39, m.sg), (38, m.sv), (35, m.cs)] := hSn.up (by rw [HSZ.out]; exact hbe)
            have xq := (hB.low.cell (p := ⟨Q, 41, none⟩) hq).trans ((LOW7.out.cell (p := ⟨Q, 41, none⟩) hq).symm.trans X8.out)
            have yq := (hB.cat.2 41 (by omega)).1
            have zq := (hB.cat.2 41 (by omega)).2
            rw [HCO.out] at yq
            by_cases hlt : j < n41
            · obtain ⟨o1, hx, hcell⟩ := HKS.out.cell (by omega)
              obtain rfl : x = ⟨b41, o1, none⟩ := by simpa using hx
              have bq := HKS.out.lt (by omega)
              obtain ⟨t1, ka, kn, kc, kb, t2, t3, t4⟩ := hcell j hlt
              have mv : ∀ o, wr.cell? ⟨b41, o, none⟩ = w11.cell? ⟨b41, o, none⟩ := fun o => (hB.low.cell (p := ⟨b41, o, none⟩) bq).trans (LOW7.out.cell (p := ⟨b41, o, none⟩) bq).symm
              have e1 := (mv _).trans t1
              have e2 := (mv _).trans t2
              have e3 : Rd wr kb ka kn kc (m.ks.getD j (0, [])).2 := t3.move fun hn => (hB.low.block kb (t4 hn)).trans (LOW7.out.block kb (t4 hn)).symm
              have el := e3.len
              have eb : kn ≤ 1048576 := by
                have := HS.out.ksk (m.ks[j]'(by omega)) (List.getElem_mem _)
                rw [← el]
                simpa [List.getD, show j < m.ks.length by omega] using this
              have hxl := ho.1
              obtain ⟨u1, f1⟩ : ∃ u, wr.cell? ⟨G, j * 2, none⟩ = some u := ⟨_, (ho.cellAt (j * 2) (by omega)).trans (List.getElem?_eq_getElem (by omega))⟩
              obtain ⟨u2, f2⟩ : ∃ u, wr.cell? ⟨G, j * 2 + 1, none⟩ = some u := ⟨_, (ho.cellAt (j * 2 + 1) (by omega)).trans (List.getElem?_eq_getElem (by omega))⟩
              have f3 := ho.frozenAt (j * 2)
              have f4 := ho.frozenAt (j * 2 + 1)
              obtain ⟨kx, hkx⟩ : ∃ x, x = m.ks.getD j (0, []) := ⟨_, rfl⟩
              rw [← hkx] at e1 e3
              have HKX : Hid (kx = m.ks.getD j (0, [])) := hkx
              obtain ⟨g1, g2⟩ := kx
              simp only at e1 e3 el
              have HKE : Hid (∀ i, i < j → KE wr G i (m.ks.getD i (0, []))) := hke
              have HOW : Hid (wr.ownsRow G 95 2 (.slice (some ⟨G, 0, none⟩) n41 n41) n41 xs) := ho
              have HBE : Hid (Below G S wr) := hbe
              clear hcell mv t1 t2 t3 t4 hke ho hbe hB hkx hx hxl
              have bl : b41 < wr.heap.size := World.block_lt_of_cell? wr _ e1
              have ql : q < wr.heap.size := World.block_lt_of_cell? wr _ yq
              have Ql : Q < wr.heap.size := World.block_lt_of_cell? wr _ xq
              have m1 : ¬ G = q := by omega
              have m2 : ¬ G = Q := by omega
              have m3 : ¬ G = b41 := by omega
              have m4 : ¬ q = G := by omega
              have m5 : ¬ Q = G := by omega
              have m6 : ¬ b41 = G := by omega
              go_wp2_with fail
              go_region_held3 (fun w' => w'.cell? ⟨q, 41, none⟩ = some (.slice (some ⟨G, 0, none⟩) n41 n41) ∧ w'.cell? ⟨Q, 41, none⟩ = some (.slice (some ⟨b41, o1, none⟩) n41 k41) ∧ w'.cell? ⟨b41, o1 + j * 2, none⟩ = some (.int .u16 g1) ∧ w'.cell? ⟨b41, o1 + j * 2 + 1, none⟩ = some (.slice ka kn kc)) (go_keep)
                (first | (go_at_call 11; refine (clone_any kb ka kn kc g2 wr.drew (e3.move (w' := wr.drew) fun _ => rfl) (by omega)).mono ?_; rintro e w2 ⟨e9, rfl, f9, g9⟩; have s1 := (World.cell?_of_block (a := ⟨q, 41, none⟩) (g9.block q ql (by simp))).trans yq; have s2 := (World.cell?_of_block (a := ⟨Q, 41, none⟩) (g9.block Q Ql (by simp))).trans xq; have s3 := (World.cell?_of_block (a := ⟨b41, o1 + j * 2, none⟩) (g9.block b41 bl (by simp))).trans e1; have s4 := (World.cell?_of_block (a := ⟨b41, o1 + j * 2 + 1, none⟩) (g9.block b41 bl (by simp))).trans e2; have s5 := (World.cell?_of_block (a := ⟨G, j * 2, none⟩) (g9.block G hGw (by simp))).trans f1; have s6 := (World.cell?_of_block (a := ⟨G, j * 2 + 1, none⟩) (g9.block G hGw (by simp))).trans f2; have s7 := (World.frozen?_of_block (a := ⟨G, j * 2, none⟩) (g9.block G hGw (by simp))).trans f3; have s8 := (World.frozen?_of_block (a := ⟨G, j * 2 + 1, none⟩) (g9.block G hGw (by simp))).trans f4))
              have R1 : ∃ xs, ((w2.setCell ⟨G, j * 2, none⟩ (.int .u16 g1)).setCell ⟨G, j * 2 + 1, none⟩ (.slice e9 kn kn)).ownsRow G 95 2 (.slice (some ⟨G, 0, none⟩) n41 n41) n41 xs := by
                have o2 : w2.ownsRow G 95 2 (.slice (some ⟨G, 0, none⟩) n41 n41) n41 xs := HOW.out.drew.kept (row := none) ⟨g9.os, g9.tape, g9.output, g9.size, fun k hk _ => g9.block k hk (by simp)⟩ (by simp [Value.ownBlock])
                exact ⟨_, ((o2.stored (j * 2) _).1.stored (j * 2 + 1) _).1⟩
              have R2 : Below G S ((w2.setCell ⟨G, j * 2, none⟩ (.int .u16 g1)).setCell ⟨G, j * 2 + 1, none⟩ (.slice e9 kn kn)) := (((HBE.out.drew).trans (g9.below (Nat.le_of_lt hGw) (fun k hk => by cases hk))).setCell (Nat.le_refl _) _).setCell (Nat.le_refl _) _
              have R3 : G < ((w2.setCell ⟨G, j * 2, none⟩ (.int .u16 g1)).setCell ⟨G, j * 2 + 1, none⟩ (.slice e9 kn kn)).heap.size := by
                have := g9.size
                simp only [World.setCell, Array.size_modify]
                exact Nat.lt_of_lt_of_le hGw this
              have R4 : ∀ i, i < j + 1 → KE ((w2.setCell ⟨G, j * 2, none⟩ (.int .u16 g1)).setCell ⟨G, j * 2 + 1, none⟩ (.slice e9 kn kn)) G i (m.ks.getD i (0, [])) := by
                intro i hi
                by_cases hij : i = j
                · subst hij
                  rw [← HKX.out]
                  exact KE.new s5 s6 f9 (fun _ => hGw)
                · exact (KE.fr (HKE.out i (by omega)).drew g9 hGw).set hij _ _
              have HR1 : Hid _ := R1
              have HR2 : Hid _ := R2
              have HR3 : Hid _ := R3
              have HR4 : Hid _ := R4
              clear R1 R2 R3 R4 s1 s2 s3 s4 s5 s6 s7 s8 f9 g9 e1 e2 e3 f1 f2 f3 f4 xq yq zq
              go_wp2_with fail
              go_roundw
              case rel => exact ⟨j + 1, by omega, by go_num, HR1.out, HR2.out, HR3.out, HR4.out⟩
              case measure => simp [intOf]; omega
            · obtain rfl : j = n41 := by omega
              have R : KOf wr q (C8 41) m.ks := .inr ⟨G, by rw [HCO.out, j41], by omega, hGw, by unfold maxLen; omega, fun i hi => hke i (by omega), HKS.out.wf⟩
              have HRR : Hid _ := R
              have HBB : Hid (BS w wr q Q m C8 [(36, m.cmp), (34, m.lck), (33, m.sid)] [(40, m.ss), (39, m.sg), (38, m.sv), (35, m.cs)]) := hB
              clear R hB ho hbe hke
              go_wp2_with fail
              go_meet
              case rel => exact ⟨C8, kc8, HBB.out, HRR.out⟩
      case rest =>
        obtain ⟨c13, kc13, h13, ko13⟩ := hcut
        clear h11 kc11 x41 d41 j41 y41 z41
        obtain ⟨w13, rfl⟩ : ∃ x : World, x = wc := ⟨_, rfl⟩
        obtain ⟨a42, n42, k42, b42, x42, d42, l42⟩ := h13.inp.ck
        have j42 := d42.len
        go_wp2_with fail
        refine (clone_any b42 a42 n42 k42 m.ck _ d42 (by have := HS.out.ck; omega)).mono ?_
        rintro e w14 ⟨e42, rfl, f42, g42⟩
        have hF14 := h13.fr g42
        obtain ⟨V42, y42⟩ : ∃ V, w14.cell? ⟨q, 42, none⟩ = some V := ⟨_, (hF14.cat.2 42 (by omega)).1⟩
        have z42 := (hF14.cat.2 42 (by omega)).2
        have h14 := h13.putB 42 (by omega) e42 n42 n42 m.ck g42 f42 (by simp) (by simp)
        have kc14 := kc13.upd 42 (.slice e42 n42 n42) (by omega) (by simp) (by omega)
        have ko14 := (ko13.fr g42).setq 42 (.slice e42 n42 n42)
        obtain ⟨a43, n43, k43, b43, x43, d43, l43⟩ := hF14.inp.cid
        have j43 := d43.len
        have r43 := d43.move (fun hn => (h14.low.block _ (l43 hn)).trans (hF14.low.block _ (l43 hn)).symm)
        go_wp2_with fail
        refine (clone_any b43 a43 n43 k43 m.cid _ r43 (by have := HS.out.cid; omega)).mono ?_
        rintro e w15 ⟨e43, rfl, f43, g43⟩
        have hF15 := h14.fr g43
        obtain ⟨V43, y43⟩ : ∃ V, w15.cell? ⟨q, 43, none⟩ = some V := ⟨_, (hF15.cat.2 43 (by omega)).1⟩
        have z43 := (hF15.cat.2 43 (by omega)).2
        obtain ⟨V44, y44⟩ : ∃ V, w15.cell? ⟨q, 44, none⟩ = some V := ⟨_, (hF15.cat.2 44 (by omega)).1⟩
        have z44 := (hF15.cat.2 44 (by omega)).2
        have h15 := h14.putB 43 (by omega) e43 n43 n43 m.cid g43 f43 (by simp) (by simp)
        have kc15 := kc14.upd 43 (.slice e43 n43 n43) (by omega) (by simp) (by omega)
        have ko15 := (ko14.fr g43).setq 43 (.slice e43 n43 n43)
        have h16 := h15.set 44 (by omega) (.bool hc) (by simp) (by simp)
        have ko16 := ko15.setq 44 (.bool hc)
        have FIN : HelloAt ((w15.setCell ⟨q, 43, none⟩ (.slice e43 n43 n43)).setCell ⟨q, 44, none⟩ (.bool hc)) ((w15.setCell ⟨q, 43, none⟩ (.slice e43 n43 n43)).setCell ⟨q, 44, none⟩ (.bool hc)).heap.size q { m with has := hc } := by
          have kc16 := kc15.upd 44 (.bool hc) (by omega) (by simp) (by omega)
          have cellOf := fun (o : Nat) (ho : o < 45) => (h16.cat.2 o ho).1
          have bsl : ∀ o xs, (o, xs) ∈ (43, m.cid) :: (42, m.ck) :: [(36, m.cmp), (34, m.lck), (33, m.sid)] → o < 45 → BSl _ _ q o xs := fun o xs hm ho => by
            obtain ⟨a, n, c, b, e1, e2, e3⟩ := h16.bs (o, xs) hm
            exact ⟨a, n, c, b, (cellOf o ho).trans (by rw [e1]), e2, fun hn => e2.lt hn⟩
          have usl : ∀ o xs, (o, xs) ∈ [(40, m.ss), (39, m.sg), (38, m.sv), (35, m.cs)] → o < 45 → USl _ _ q o xs := fun o xs hm ho => by
            obtain ⟨a, n, c, b, e1, e2, e3⟩ := h16.us (o, xs) hm
            exact ⟨a, n, c, b, (cellOf o ho).trans (by rw [e1]), e2, fun hn => e2.lt hn⟩
          exact ⟨h16.cat.1, (cellOf 0 (by omega)).trans (by rw [kc16.ver]), HV.out, fun i hi => (cellOf (1 + i) (by omega)).trans (by rw [kc16.rnd i hi]), hrl, HR.out, bsl 33 _ (by simp) (by omega), bsl 34 _ (by simp) (by omega), usl 35 _ (by simp) (by omega), bsl 36 _ (by simp) (by omega),
            (cellOf 37 (by omega)).trans (by rw [kc16.nm rfl]), HNL.out, usl 38 _ (by simp) (by omega), usl 39 _ (by simp) (by omega), usl 40 _ (by simp) (by omega), ko16.sl (cellOf 41 (by omega)), bsl 42 _ (by simp) (by omega), bsl 43 _ (by simp) (by omega), (cellOf 44 (by omega)).trans rfl⟩
        have HFIN : Hid _ := FIN
        have HLOW : Hid _ := h16.low
        clear FIN h16 h15 h14 h13 kc13 kc14 kc15 ko13 ko14 ko15 ko16 hF15 x42 d42 l42 j42 x43 d43 l43 j43 r43 f42 g42 f43 g43
        go_wp2
        go_ret
        rw [HQQ.out]
        exact ⟨rfl, HFIN.out, HLOW.out⟩

end Go.Proofs.Qxb6615713a
