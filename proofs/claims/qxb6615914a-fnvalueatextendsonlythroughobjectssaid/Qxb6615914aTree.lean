/- ZZValueAtTree. -/
import Derived.Test.Qxb6615914aValue
namespace Go.Proofs.Qxb6615914a
open Go.RowKit
set_option linter.unusedSimpArgs false
set_option linter.unusedVariables false

theorem make_hint (w : World) (x : Int) : (Instr.makeMap 29 (some (.int .i64 x))).run Try.prog w = .ok (.map (some w.heap.size)) (w.alloc (.map #[] 0)) := by kernel_rfl

theorem MapIs.drew {w : World} {b n sz : Nat} {f : Str → Option El} (h : MapIs w b n f sz) : MapIs w.drew b n f sz := h.move rfl

/-- A store into a map of the call's own leaves the old blocks alone. -/
theorem fr_own {w wr w1 : World} {b : Nat} (h : Fr [] w wr) (hg : wr.grownBy w1 (some b)) (hb : w.heap.size ≤ b) : Fr [] w w1 :=
  ⟨hg.os.trans h.os, hg.tape.trans h.tape, hg.output.trans h.output, Nat.le_trans h.size hg.size, fun k hk hn => (hg.block k (Nat.lt_of_lt_of_le hk h.size) (by simp; omega)).trans (h.block k hk hn)⟩

/-- The map of the first j pairs. -/
def PairMap (w : World) (b : Nat) (ks vs : List Str) (j : Nat) : Prop := MapIs w b j (fSub (look ((ks.take j).zip (vs.take j)))) (dist (ks.take j))

theorem PairMap.step {w : World} {b : Nat} {ks vs : List Str} {j : Nat} (h : PairMap w b ks vs j) (hl : ks.length = vs.length) (hj : j < ks.length) (hm : ks.length ≤ maxLen) (hk : (nth ks j).size ≤ maxLen) :
    ∃ w', (Instr.mapUpdate 29 (.map (some b)) (.string (nth ks j)) (.iface 9 (.string (nth vs j)))).run Try.prog w = .ok () w' ∧ PairMap w' b ks vs (j + 1) ∧ w.grownBy w' (some b) := by
  obtain ⟨w', hrun, hm', hg⟩ := MapIs.put h (by omega) (nth ks j) hk (El.str (nth vs j))
  refine ⟨w', hrun, ?_, hg⟩
  have e1 : ks.take (j + 1) = ks.take j ++ [nth ks j] := by rw [nth_eq hj]; exact (List.take_append_getElem hj).symm
  have e2 : vs.take (j + 1) = vs.take j ++ [nth vs j] := by rw [nth_eq (by omega)]; exact (List.take_append_getElem (by omega)).symm
  have e3 : (ks.take (j + 1)).zip (vs.take (j + 1)) = (ks.take j).zip (vs.take j) ++ [(nth ks j, nth vs j)] := by
    rw [e1, e2, List.zip_append (by simp; omega)]
    rfl
  have e4 : dist (ks.take (j + 1)) = if (fSub (look ((ks.take j).zip (vs.take j))) (nth ks j)).isSome then dist (ks.take j) else dist (ks.take j) + 1 := by
    rw [e1, dist_snoc]
    have hz : ((ks.take j).zip (vs.take j)).map (·.1) = ks.take j := zip_keys (by simp; omega)
    have hi := @look_isSome (nth ks j) ((ks.take j).zip (vs.take j))
    rw [hz] at hi
    unfold fSub
    generalize nth ks j = k0 at hi
    by_cases hmem : k0 ∈ ks.take j
    · simp [memB_iff.2 hmem, hi.2 hmem]
    · have : (look ((ks.take j).zip (vs.take j)) k0).isSome = false := by
        cases hb : (look ((ks.take j).zip (vs.take j)) k0).isSome with
        | false => rfl
        | true => exact absurd (hi.1 hb) hmem
      simp [memB_no hmem, this]
  unfold PairMap
  rw [e3, e4]
  refine hm'.congr fun x => ?_
  unfold fSub
  rw [look_snoc]
  generalize nth ks j = k0
  by_cases hx : k0 = x <;> simp [hx]

/-- The number of the whole's members. -/
def topN (ks : List Str) (sn : Str) : Nat := if memB sn ks then dist ks else dist ks + 1
/-- Four words; no old block turned. -/
def TPost (A : Ans) (w : World) (e : Ending) (w' : World) : Prop := e = .returned (.tuple #[.int .i64 A.kind, .string A.s, .int .i64 A.n, .bool A.ok]) ∧ Fr [] w w'

theorem PairMap.done {w : World} {b : Nat} {ks vs : List Str} (hl : ks.length = vs.length) (h : PairMap w b ks vs ks.length) : MapIs w b ks.length (fSub (look (ks.zip vs))) (dist ks) := by
  unfold PairMap at h
  rw [List.take_length, hl, List.take_length, ← hl] at h
  exact h

/-- The sub-object laid under its name. -/
theorem PairMap.under {w : World} {b bo : Nat} {ks vs : List Str} {sn : Str} (hl : ks.length = vs.length) (h : PairMap w b ks vs ks.length) (hm : ks.length < maxLen) (hk : sn.size ≤ maxLen) :
    ∃ w', (Instr.mapUpdate 29 (.map (some b)) (.string sn) (.iface 29 (.map (some bo)))).run Try.prog w = .ok () w' ∧ MapIs w' b (ks.length + 1) (fTop (look (ks.zip vs)) sn bo) (topN ks sn) ∧ w.grownBy w' (some b) := by
  obtain ⟨w', hrun, hm', hg⟩ := MapIs.put (PairMap.done hl h) hm sn hk (El.obj bo)
  refine ⟨w', hrun, ?_, hg⟩
  have hi := @look_isSome sn (ks.zip vs)
  rw [zip_keys hl] at hi
  have e : (if (fSub (look (ks.zip vs)) sn).isSome then dist ks else dist ks + 1) = topN ks sn := by
    unfold topN fSub
    by_cases hmem : sn ∈ ks
    · simp [memB_iff.2 hmem, hi.2 hmem]
    · have : (look (ks.zip vs) sn).isSome = false := by
        cases hb : (look (ks.zip vs) sn).isSome with
        | false => rfl
        | true => exact absurd (hi.1 hb) hmem
      simp [memB_no hmem, this]
  rw [e] at hm'
  exact hm'

theorem value_to (w : World) (bp bo n1 n2 s1 s2 : Nat) (T S : Str → Option Str) (sn : Str) (hT : Hid (MapIs w bp n1 (fTop T sn bo) s1)) (hS : Hid (MapIs w bo n2 (fSub S) s2))
    (b : Nat) (a : Option Addr) (n c : Nat) (ps : List Str) (h : Hid (RdS w b a n c ps)) (r : Option Pl) (hr : Hid (walkTo T S sn Pl.top ps = r)) :
    Calls Try.prog 11 #[.map (some bp), .slice a n c] w (VPost bp bo r w) := by
  obtain rfl := hr.out
  exact value_at w bp bo n1 n2 s1 s2 T S sn hT.out hS.out b a n c ps h.out
theorem hand_to (w : World) (b n sz : Nat) (f : Str → Option El) (h : Hid (MapIs w b n f sz)) (ok : Bool) : Calls Try.prog 12 #[.iface 29 (.map (some b)), .bool ok] w fun e w' => e = .returned (.tuple #[.int .i64 2, .string ByteArray.empty, .int .i64 sz, .bool ok]) ∧ w = w' :=
  hand_obj w b n sz f h.out ok

set_option maxHeartbeats 1000000 in
theorem tree_ans (w : World) (b0 b1 b3 b4 b5 : Nat) (a0 a1 a3 a4 a5 : Option Addr) (n0 c0 c1 n3 c3 c4 n5 c5 : Nat) (s0 s1 s3 s4 s5 : List ByteArray) (sn : ByteArray)
    (h0 : RdS w b0 a0 n0 c0 s0) (h1 : RdS w b1 a1 n0 c1 s1) (h3 : RdS w b3 a3 n3 c3 s3) (h4 : RdS w b4 a4 n3 c4 s4) (h5 : RdS w b5 a5 n5 c5 s5) (hsn : sn.size ≤ maxLen) (hn0 : n0 ≤ 4096) (hn3 : n3 ≤ 4096)
    (r : Option Pl) (hr : walkTo (look (s0.zip s1)) (look (s3.zip s4)) sn Pl.top s5 = r) :
    Calls Try.prog 7 #[.slice a0 n0 c0, .slice a1 n0 c1, .string sn, .slice a3 n3 c3, .slice a4 n3 c4, .slice a5 n5 c5] w (TPost (ansOf (topN s0 sn) (dist s3) r) w) := by
  have hmk := make_hint
  have H0 : Hid (RdS w b0 a0 n0 c0 s0) := h0
  have H1 : Hid (RdS w b1 a1 n0 c1 s1) := h1
  have H3 : Hid (RdS w b3 a3 n3 c3 s3) := h3
  have H4 : Hid (RdS w b4 a4 n3 c4 s4) := h4
  have H5 : Hid (RdS w b5 a5 n5 c5 s5) := h5
  have HR : Hid (walkTo (look (s0.zip s1)) (look (s3.zip s4)) sn Pl.top s5 = r) := hr
  have HK : Hid (sn.size ≤ maxLen) := hsn
  have hc0 := h0.cap
  have hc1 := h1.cap
  have hm0 := h0.max
  have hm1 := h1.max
  have hc3 := h3.cap
  have hc4 := h4.cap
  have hm3 := h3.max
  have hm4 := h4.max
  clear h0 h1 h3 h4 h5 hr hsn
  unfold maxLen at hm0 hm1 hm3 hm4
  go_enter Try.func7, Try.ntmps7
  go_wp2
  go_loopw [17] (fun i wr => ∃ j : Nat, j ≤ n0 ∧ i = .int .i64 j ∧ Hid (PairMap wr w.heap.size s0 s1 j ∧ Fr [] w wr)) (fun i _ => n0 - (intOf i).toNat)
  case atStart => exact ⟨0, Nat.zero_le _, rfl, (MapIs.made w).congr (fun k => rfl), Fr.grown (World.grownBy_alloc w _ none) _⟩
  case round =>
    obtain ⟨j, hj, rfl, hpm⟩ := hrel
    by_cases hlt : j < n0
    · obtain ⟨o0, rfl, hc0⟩ := H0.out.cell (by omega)
      obtain ⟨o1, rfl, hc1⟩ := H1.out.cell (by omega)
      have HF : Hid (Fr [] w wr) := hpm.out.2
      have e0 := (World.cell?_of_block (a := ⟨b0, o0 + j, none⟩) (HF.out.block b0 (World.block_lt_of_cell? w _ (hc0 j hlt)) (by simp))).trans (hc0 j hlt)
      have e1 := (World.cell?_of_block (a := ⟨b1, o1 + j, none⟩) (HF.out.block b1 (World.block_lt_of_cell? w _ (hc1 j hlt)) (by simp))).trans (hc1 j hlt)
      obtain ⟨w1, hrun, hp1, hg1⟩ := PairMap.step (w := wr.drew) (MapIs.drew hpm.out.1) (by rw [H0.out.len, H1.out.len]) (by rw [H0.out.len]; omega) (by rw [H0.out.len]; unfold maxLen; omega) (H0.out.at_wf hlt)
      have HP : Hid (PairMap w1 w.heap.size s0 s1 (j + 1)) := hp1
      have HG : Hid (wr.drew.grownBy w1 (some w.heap.size)) := hg1
      change wr.cell? _ = some (.string (nth s0 j)) at e0
      change wr.cell? _ = some (.string (nth s1 j)) at e1
      clear hc0 hc1 hpm hp1 hg1
      generalize nth s0 j = k0 at e0 hrun
      generalize nth s1 j = k1 at e1 hrun
      go_wp2
      go_region
      all_goals (try go_wp2)
      go_roundw
      case rel => exact ⟨j + 1, by omega, by go_num, HP.out, fr_own HF.out.drew HG.out (Nat.le_refl _)⟩
      case measure => simp [intOf]; omega
    · obtain rfl : j = n0 := by omega
      obtain ⟨wo, rfl⟩ : ∃ wo : World, wo = wr := ⟨_, rfl⟩
      go_wp2
      go_loopw [19] (fun i wr => ∃ k : Nat, k ≤ n3 ∧ i = .int .i64 k ∧ Hid (PairMap wr wo.heap.size s3 s4 k ∧ PairMap wr w.heap.size s0 s1 j ∧ Fr [] w wr)) (fun i _ => n3 - (intOf i).toNat)
      case atStart => exact ⟨0, Nat.zero_le _, rfl, (MapIs.made wo).congr (fun k => rfl), MapIs.move hpm.out.1 (Below.heap_alloc _ _ _ (MapIs.lt hpm.out.1)), hpm.out.2.trans (Fr.grown (World.grownBy_alloc wo _ none) _)⟩
      case round =>
        obtain ⟨k, hk, rfl, hqm⟩ := hrel
        have hlo := MapIs.lt hpm.out.1
        by_cases hlt : k < n3
        · obtain ⟨o0, rfl, hc0⟩ := H3.out.cell (by omega)
          obtain ⟨o1, rfl, hc1⟩ := H4.out.cell (by omega)
          have HF : Hid (Fr [] w wr) := hqm.out.2.2
          have e0 := (World.cell?_of_block (a := ⟨b3, o0 + k, none⟩) (HF.out.block b3 (World.block_lt_of_cell? w _ (hc0 k hlt)) (by simp))).trans (hc0 k hlt)
          have e1 := (World.cell?_of_block (a := ⟨b4, o1 + k, none⟩) (HF.out.block b4 (World.block_lt_of_cell? w _ (hc1 k hlt)) (by simp))).trans (hc1 k hlt)
          obtain ⟨w1, hrun, hp1, hg1⟩ := PairMap.step (w := wr.drew) (MapIs.drew hqm.out.1) (by rw [H3.out.len, H4.out.len]) (by rw [H3.out.len]; omega) (by rw [H3.out.len]; unfold maxLen; omega) (H3.out.at_wf hlt)
          have HP : Hid (PairMap w1 wo.heap.size s3 s4 (k + 1)) := hp1
          have HG : Hid (wr.drew.grownBy w1 (some wo.heap.size)) := hg1
          have HQ : Hid (PairMap w1 w.heap.size s0 s1 j) := MapIs.move (MapIs.drew hqm.out.2.1) (hg1.block _ (MapIs.lt (MapIs.drew hqm.out.2.1)) (by simp; omega))
          have HB : Hid (w.heap.size ≤ wo.heap.size) := Nat.le_of_lt hlo
          change wr.cell? _ = some (.string (nth s3 k)) at e0
          change wr.cell? _ = some (.string (nth s4 k)) at e1
          clear hc0 hc1 hpm hp1 hg1 hqm hlo
          generalize nth s3 k = k0 at e0 hrun
          generalize nth s4 k = k1 at e1 hrun
          go_wp2
          go_region
          all_goals (try go_wp2)
          go_roundw
          case rel => exact ⟨k + 1, by omega, by go_num, HP.out, HQ.out, fr_own HF.out.drew HG.out HB.out⟩
          case measure => simp [intOf]; omega
        · obtain rfl : k = n3 := by omega
          have l0 := H0.out.len
          have l1 := H1.out.len
          have l3 := H3.out.len
          have l4 := H4.out.len
          obtain ⟨w1, hrun, hp1, hg1⟩ := PairMap.under (bo := wo.heap.size) (sn := sn) (l0.trans l1.symm) (by rw [l0]; exact hqm.out.2.1) (by rw [l0]; unfold maxLen; omega) HK.out
          have hne : wo.heap.size ≠ w.heap.size := by omega
          have hS : MapIs w1 wo.heap.size k (fSub (look (s3.zip s4))) (dist s3) := by
            have := PairMap.done (l3.trans l4.symm) (by rw [l3]; exact hqm.out.1)
            rw [l3] at this
            exact this.move (hg1.block _ this.lt (by simp; omega))
          have HT : Hid (MapIs w1 w.heap.size (s0.length + 1) (fTop (look (s0.zip s1)) sn wo.heap.size) (topN s0 sn)) := hp1
          have HS : Hid (MapIs w1 wo.heap.size k (fSub (look (s3.zip s4))) (dist s3)) := hS
          have HF : Hid (Fr [] w w1) := fr_own hqm.out.2.2 hg1 (Nat.le_refl _)
          have H5' : Hid (RdS w1 b5 a5 n5 c5 s5) := H5.out.fr HF.out (by simp)
          clear hpm hqm hp1 hg1 hS l0 l1 l3 l4 hne hlo H0 H1 H3 H4 H5
          rcases r with _ | ((_ | _) | s)
          · go_wp2_with (first | (go_at_call 11; refine (value_to w1 _ _ _ _ _ _ _ _ sn HT HS b5 _ _ _ s5 H5' none HR).mono ?_; rintro e w2 ⟨rfl, rfl⟩; unfold outV) | (go_at_call 12; refine (hand_nil _ _).mono ?_; rintro e w2 ⟨rfl, rfl⟩))
            (try simp only [Exit.inBlock, Exit.then])
            refine bodyPost_ret (results_tmp4 rfl _ _ _) rfl ?_
            exact ⟨rfl, HF.out⟩
          · go_wp2_with (first | (go_at_call 11; refine (value_to w1 _ _ _ _ _ _ _ _ sn HT HS b5 _ _ _ s5 H5' (some Pl.sub) HR).mono ?_; rintro e w2 ⟨rfl, rfl⟩; unfold outV pv) | (go_at_call 12; refine (hand_to _ _ _ _ _ HS _).mono ?_; rintro e w2 ⟨rfl, rfl⟩))
            (try simp only [Exit.inBlock, Exit.then])
            refine bodyPost_ret (results_tmp4 rfl _ _ _) rfl ?_
            exact ⟨rfl, HF.out⟩
          · go_wp2_with (first | (go_at_call 11; refine (value_to w1 _ _ _ _ _ _ _ _ sn HT HS b5 _ _ _ s5 H5' (some Pl.top) HR).mono ?_; rintro e w2 ⟨rfl, rfl⟩; unfold outV pv) | (go_at_call 12; refine (hand_to _ _ _ _ _ HT _).mono ?_; rintro e w2 ⟨rfl, rfl⟩))
            (try simp only [Exit.inBlock, Exit.then])
            refine bodyPost_ret (results_tmp4 rfl _ _ _) rfl ?_
            exact ⟨rfl, HF.out⟩
          · go_wp2_with (first | (go_at_call 11; refine (value_to w1 _ _ _ _ _ _ _ _ sn HT HS b5 _ _ _ s5 H5' (some (Pl.str s)) HR).mono ?_; rintro e w2 ⟨rfl, rfl⟩; unfold outV pv) | (go_at_call 12; refine (hand_str _ _ _).mono ?_; rintro e w2 ⟨rfl, rfl⟩))
            (try simp only [Exit.inBlock, Exit.then])
            refine bodyPost_ret (results_tmp4 rfl _ _ _) rfl ?_
            exact ⟨rfl, HF.out⟩
end Go.Proofs.Qxb6615914a
