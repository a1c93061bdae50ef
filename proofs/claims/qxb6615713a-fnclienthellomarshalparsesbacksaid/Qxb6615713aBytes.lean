/- THE BYTES: equalBytes and cloneBytes. -/
import Derived.Test.Qxb6615713aReader
namespace Go.Proofs.Qxb6615713a
open Go.RowKit
set_option linter.unusedSimpArgs false
set_option linter.unusedVariables false

set_option maxHeartbeats 400000 in
theorem equal_yes (b1 b2 : Nat) (a1 a2 : Option Addr) (n c1 c2 : Nat) (xs : List Int) (w : World) (h1 : Rd w b1 a1 n c1 xs) (h2 : Rd w b2 a2 n c2 xs) :
    Calls Try.prog 16 #[.slice a1 n c1, .slice a2 n c2] w fun e w' => e = .returned (.bool true) ∧ Fr [] w w' := by
  have hcap1 := h1.cap
  have hmax1 := h1.max
  unfold maxLen at hmax1
  by_cases hn : n = 0
  · subst hn
    go_enter Try.func16, Try.ntmps16
    go_wp2
    refine wp_loop_rounds 1 ?_
    rw [rounds_succ]
    go_wp2
    go_ret
    exact ⟨rfl, Fr.refl _ _⟩
  · obtain ⟨o1, rfl, hc1⟩ := h1.cell (by omega)
    obtain ⟨o2, rfl, hc2⟩ := h2.cell (by omega)
    have hle : 0 < n := by omega
    clear h1 h2
    go_enter Try.func16, Try.ntmps16
    go_wp2
    go_loopw [5] (fun i wr => ∃ j : Nat, j ≤ n ∧ i = .int .i64 j ∧ Fr [] w wr) (fun i _ => n - (intOf i).toNat)
    case atStart => exact ⟨0, Nat.zero_le _, rfl, Fr.refl _ _⟩
    case round =>
      obtain ⟨j, hj, rfl, hfr⟩ := hrel
      by_cases hlt : j < n
      · have e1 := (World.cell?_of_block (a := ⟨b1, o1 + j, none⟩) (hfr.block b1 (World.block_lt_of_cell? w _ (hc1 j hlt)) (by simp))).trans (hc1 j hlt)
        have e2 := (World.cell?_of_block (a := ⟨b2, o2 + j, none⟩) (hfr.block b2 (World.block_lt_of_cell? w _ (hc2 j hlt)) (by simp))).trans (hc2 j hlt)
        clear hc1 hc2
        generalize xs.getD j 0 = x at e1 e2
        go_wp2
        go_region
        all_goals (try go_wp2)
        go_roundw
        case rel => exact ⟨j + 1, by omega, by go_num, hfr.drew⟩
        case measure => simp [intOf]; omega
      · go_wp2
        go_ret
        exact ⟨rfl, hfr⟩
theorem Fr.grown {w w' : World} (h : w.grownBy w' none) (S : List Nat) : Fr S w w' := ⟨h.os, h.tape, h.output, h.size, fun k hk _ => h.block k hk (by simp)⟩

theorem set_take_rep (xs : List Int) (n j : Nat) (hl : xs.length = n) (hj : j < n) :
    ((xs.take j ++ List.replicate (n - j) 0).map (Value.int .u8)).set j (.int .u8 (xs.getD j 0)) = (xs.take (j + 1) ++ List.replicate (n - (j + 1)) 0).map (Value.int .u8) := by
  rw [take_snoc (by omega), show n - j = (n - (j + 1)) + 1 by omega, List.replicate_succ]
  have hlen : (List.map (Value.int .u8) (xs.take j)).length = j := by simp; omega
  simp only [List.map_append, List.map_cons, List.append_assoc, List.map_nil, List.cons_append, List.nil_append]
  rw [List.set_append_right _ _ (by omega), hlen, Nat.sub_self, List.set_cons_zero]

theorem rep_at (xs : List Int) (n j : Nat) (hl : xs.length = n) (hj : j < n) : ((xs.take j ++ List.replicate (n - j) 0).map (Value.int .u8))[j]? = some (Value.int .u8 0) := by
  have h1 : (xs.take j).length = j := by simp; omega
  rw [List.getElem?_map, List.getElem?_append_right (by omega), h1, Nat.sub_self, List.getElem?_replicate, if_pos (by omega)]
  rfl

set_option maxHeartbeats 400000 in
theorem clone_some (b : Nat) (x : Addr) (n c : Nat) (xs : List Int) (w : World) (h : Rd w b (some x) n c xs) (hb : n ≤ 1099511627776) :
    Calls Try.prog 11 #[.slice (some x) n c] w fun e w' => e = .returned (.slice (some ⟨w.heap.size, 0, none⟩) n n) ∧ Rd w' w.heap.size (some ⟨w.heap.size, 0, none⟩) n n xs ∧ Fr [] w w' := by
  have hq := fun (w : World) (a : Option Addr) (n c : Nat) => Lib.run_eql_slice_nil (P := Try.prog) w 22 5 a n c 0 0 Try.underlying22
  obtain ⟨i0, hi, hz0, hz1, hz2⟩ := info_parts Try.info5
  have hcap1 := h.cap
  have hmax1 := h.max
  have hlen := h.len
  unfold maxLen at hmax1
  go_enter Try.func11, Try.ntmps11
  go_wp2_with (at_make; refine wpList_make_full _ rfl _ _ 22 rfl w.heap.size 5 i0 (.int .u8 0) 1 Try.underlying22 hi hz0 hz1 .i64 .i64 n n n rfl rfl rfl rfl ?b1 ?b2 ?b3 ?_)
  case b1 => rw [hz2]; omega
  case b2 => unfold maxLen; omega
  case b3 => exact Nat.le_refl _
  intro w1 hown hgr
  rw [show (madeCells #[Value.int .u8 0] n).toList = ((xs.take 0 ++ List.replicate (n - 0) 0).map (Value.int .u8)) from by rw [toList_madeCells_one]; simp] at hown
  go_wp2
  go_loopw [4] (fun i wr => ∃ j : Nat, j ≤ n ∧ i = .int .i64 j ∧ wr.ownsRow w.heap.size 5 1 (.slice (some ⟨w.heap.size, 0, none⟩) n n) n ((xs.take j ++ List.replicate (n - j) 0).map (Value.int .u8)) ∧ Fr [] w wr) (fun i _ => n - (intOf i).toNat)
  case atStart => exact ⟨0, Nat.zero_le _, rfl, hown, Fr.grown hgr _⟩
  case round =>
    obtain ⟨j, hj, rfl, ho, hfr⟩ := hrel
    clear hown hgr
    by_cases hlt : j < n
    · obtain ⟨o, hx, hcell⟩ := h.cell (by omega)
      obtain rfl : x = ⟨b, o, none⟩ := by simpa using hx
      have e1 := (World.cell?_of_block (a := ⟨b, o + j, none⟩) (hfr.block b (World.block_lt_of_cell? w _ (hcell j hlt)) (by simp))).trans (hcell j hlt)
      have e2 := (ho.cellAt j (by omega)).trans (rep_at xs n j hlen hlt)
      have e3 := ho.frozenAt j
      have hset := set_take_rep xs n j hlen hlt
      have hs := ho.stored j (.int .u8 (xs.getD j 0))
      rw [hset] at hs
      have HS : Hid ((wr.setCell ⟨w.heap.size, j, none⟩ (.int .u8 (xs.getD j 0))).ownsRow w.heap.size 5 1 (.slice (some ⟨w.heap.size, 0, none⟩) n n) n ((xs.take (j + 1) ++ List.replicate (n - (j + 1)) 0).map (Value.int .u8)) ∧ wr.grownBy (wr.setCell ⟨w.heap.size, j, none⟩ (.int .u8 (xs.getD j 0))) (some w.heap.size)) := hs
      clear hset hs ho hcell hx hlen
      generalize xs.getD j 0 = y at *
      go_wp2
      go_roundw
      case rel => exact ⟨j + 1, by omega, by go_num, HS.out.1, ⟨HS.out.2.os.trans hfr.os, HS.out.2.tape.trans hfr.tape, HS.out.2.output.trans hfr.output, Nat.le_trans hfr.size HS.out.2.size, fun k hk hn => (HS.out.2.block k (Nat.lt_of_lt_of_le hk hfr.size) (by simp; omega)).trans (hfr.block k hk hn)⟩⟩
      case measure => simp [intOf]; omega
    · obtain rfl : j = n := by omega
      go_wp2
      go_ret
      refine ⟨rfl, ?_, hfr⟩
      refine ⟨hlen, Nat.le_refl _, by unfold maxLen; omega, fun h => by simp at h, fun h0 => ⟨0, rfl, fun t ht => ?_⟩, h.wf⟩
      rw [Nat.zero_add, ho.cellAt t (by omega)]
      simp [hlen, ht, List.getD]

set_option maxHeartbeats 400000 in
theorem clone_nil (n c : Nat) (w : World) :
    Calls Try.prog 11 #[.slice none n c] w fun e w' => e = .returned (.slice none 0 0) ∧ w' = w := by
  have hq := fun (w : World) (a : Option Addr) (n c : Nat) => Lib.run_eql_slice_nil (P := Try.prog) w 22 5 a n c 0 0 Try.underlying22
  go_enter Try.func11, Try.ntmps11
  go_wp2
  go_ret
  exact ⟨rfl, rfl⟩

/-- cloneBytes: the same bytes, in a block of their own. -/
theorem clone_any (b : Nat) (a : Option Addr) (n c : Nat) (xs : List Int) (w : World) (h : Rd w b a n c xs) (hb : n ≤ 1099511627776) :
    Calls Try.prog 11 #[.slice a n c] w fun e w' => ∃ a', e = .returned (.slice a' n n) ∧ Rd w' w.heap.size a' n n xs ∧ Fr [] w w' := by
  cases a with
  | some x => exact (clone_some b x n c xs w h hb).mono fun e w' ⟨h1, h2, h3⟩ => ⟨_, h1, h2, h3⟩
  | none =>
    have h0 := h.nil rfl
    have hc := h.cap
    obtain rfl : n = 0 := by omega
    refine (clone_nil 0 c w).mono fun e w' ⟨h1, h2⟩ => ⟨none, h1, ?_, ?_⟩
    · obtain rfl : xs = [] := List.length_eq_zero_iff.1 h.len
      exact Rd.empty _ _
    · subst h2; exact Fr.refl _ _


end Go.Proofs.Qxb6615713a
