/- cloneU16s: the same numbers, in a block of their own. -/
import Derived.Test.Qxb6615713aMarshal
namespace Go.Proofs.Qxb6615713a
open Go.RowKit
set_option linter.unusedSimpArgs false
set_option linter.unusedVariables false

theorem Try.info37 : (Try.prog.info? 37).map (fun i => (i.zero, i.size, i.bytes)) = some (some (.int .u16 0), 1, 2) := by kernel_rfl
theorem Rd16.empty (w : World) (b : Nat) : Rd16 w b none 0 0 [] :=
  ⟨rfl, Nat.le_refl _, Nat.zero_le _, fun _ => rfl, fun h => absurd h (by omega), fun _ h => by cases h⟩

theorem set_take_rep16 (xs : List Int) (n j : Nat) (hl : xs.length = n) (hj : j < n) :
    ((xs.take j ++ List.replicate (n - j) 0).map (Value.int .u16)).set j (.int .u16 (xs.getD j 0)) = (xs.take (j + 1) ++ List.replicate (n - (j + 1)) 0).map (Value.int .u16) := by
  rw [take_snoc (by omega), show n - j = (n - (j + 1)) + 1 by omega, List.replicate_succ]
  have hlen : (List.map (Value.int .u16) (xs.take j)).length = j := by simp; omega
  simp only [List.map_append, List.map_cons, List.append_assoc, List.map_nil, List.cons_append, List.nil_append]
  rw [List.set_append_right _ _ (by omega), hlen, Nat.sub_self, List.set_cons_zero]

theorem rep_at16 (xs : List Int) (n j : Nat) (hl : xs.length = n) (hj : j < n) : ((xs.take j ++ List.replicate (n - j) 0).map (Value.int .u16))[j]? = some (Value.int .u16 0) := by
  have h1 : (xs.take j).length = j := by simp; omega
  rw [List.getElem?_map, List.getElem?_append_right (by omega), h1, Nat.sub_self, List.getElem?_replicate, if_pos (by omega)]
  rfl

set_option maxHeartbeats 400000 in
theorem clone16_some (b : Nat) (x : Addr) (n c : Nat) (xs : List Int) (w : World) (h : Rd16 w b (some x) n c xs) (hb : n ≤ 1099511627776) :
    Calls Try.prog 48 #[.slice (some x) n c] w fun e w' => e = .returned (.slice (some ⟨w.heap.size, 0, none⟩) n n) ∧ Rd16 w' w.heap.size (some ⟨w.heap.size, 0, none⟩) n n xs ∧ Fr [] w w' := by
  have hq := fun (w : World) (a : Option Addr) (n c : Nat) => Lib.run_eql_slice_nil (P := Try.prog) w 39 37 a n c 0 0 Try.underlying39
  obtain ⟨i0, hi, hz0, hz1, hz2⟩ := info_parts Try.info37
  have hcap1 := h.cap
  have hmax1 := h.max
  have hlen := h.len
  unfold maxLen at hmax1
  go_enter Try.func48, Try.ntmps48
  go_wp2_with (at_make; refine wpList_make_full _ rfl _ _ 39 rfl w.heap.size 37 i0 (.int .u16 0) 1 Try.underlying39 hi hz0 hz1 .i64 .i64 n n n rfl rfl rfl rfl ?b1 ?b2 ?b3 ?_)
  case b1 => rw [hz2]; omega
  case b2 => unfold maxLen; omega
  case b3 => exact Nat.le_refl _
  intro w1 hown hgr
  rw [show (madeCells #[Value.int .u16 0] n).toList = ((xs.take 0 ++ List.replicate (n - 0) 0).map (Value.int .u16)) from by rw [toList_madeCells_one]; simp] at hown
  go_wp2
  go_loopw [4] (fun i wr => ∃ j : Nat, j ≤ n ∧ i = .int .i64 j ∧ wr.ownsRow w.heap.size 37 1 (.slice (some ⟨w.heap.size, 0, none⟩) n n) n ((xs.take j ++ List.replicate (n - j) 0).map (Value.int .u16)) ∧ Fr [] w wr) (fun i _ => n - (intOf i).toNat)
  case atStart => exact ⟨0, Nat.zero_le _, rfl, hown, Fr.grown hgr _⟩
  case round =>
    obtain ⟨j, hj, rfl, ho, hfr⟩ := hrel
    clear hown hgr
    by_cases hlt : j < n
    · obtain ⟨o, hx, hcell⟩ := h.cell (by omega)
      obtain rfl : x = ⟨b, o, none⟩ := by simpa using hx
      have e1 := (World.cell?_of_block (a := ⟨b, o + j, none⟩) (hfr.block b (World.block_lt_of_cell? w _ (hcell j hlt)) (by simp))).trans (hcell j hlt)
      have e2 := (ho.cellAt j (by omega)).trans (rep_at16 xs n j hlen hlt)
      have e3 := ho.frozenAt j
      have hset := set_take_rep16 xs n j hlen hlt
      have hs := ho.stored j (.int .u16 (xs.getD j 0))
      rw [hset] at hs
      have HS : Hid ((wr.setCell ⟨w.heap.size, j, none⟩ (.int .u16 (xs.getD j 0))).ownsRow w.heap.size 37 1 (.slice (some ⟨w.heap.size, 0, none⟩) n n) n ((xs.take (j + 1) ++ List.replicate (n - (j + 1)) 0).map (Value.int .u16)) ∧ wr.grownBy (wr.setCell ⟨w.heap.size, j, none⟩ (.int .u16 (xs.getD j 0))) (some w.heap.size)) := hs
      clear hset hs ho hcell hx hlen
      generalize xs.getD j 0 = y at *
      go_wp2
      go_roundw
      case rel => exact ⟨j + 1, by omega, by go_num, HS.out.1, ⟨HS.out.2.os.trans hfr.os, HS.out.2.tape.trans hfr.tape, HS.out.2.output.trans hfr.output, Nat.le_trans hfr.size HS.out.2.size, fun k hk hn => (HS.out.2.block k (Nat.lt_of_lt_of_le hk hfr.size) (by simp; omega)).trans (hfr.block k hk hn)⟩⟩
      case measure => simp [intOf]; omega
    · obtain rfl : j = n := by omega
      go_wp2
      go_ret
      refine ⟨rfl, ?_, hfr⟩
      refine ⟨hlen, Nat.le_refl _, by unfold maxLen; omega, fun h => by simp at h, fun h0 => ⟨0, rfl, fun t ht => ?_⟩, h.wf⟩
      rw [Nat.zero_add, ho.cellAt t (by omega)]
      simp [hlen, ht, List.getD]

set_option maxHeartbeats 400000 in
theorem clone16_nil (n c : Nat) (w : World) :
    Calls Try.prog 48 #[.slice none n c] w fun e w' => e = .returned (.slice none 0 0) ∧ w' = w := by
  have hq := fun (w : World) (a : Option Addr) (n c : Nat) => Lib.run_eql_slice_nil (P := Try.prog) w 39 37 a n c 0 0 Try.underlying39
  go_enter Try.func48, Try.ntmps48
  go_wp2
  go_ret
  exact ⟨rfl, rfl⟩

/-- cloneBytes: the same bytes, in a block of their own. -/
theorem clone16_any (b : Nat) (a : Option Addr) (n c : Nat) (xs : List Int) (w : World) (h : Rd16 w b a n c xs) (hb : n ≤ 1099511627776) :
    Calls Try.prog 48 #[.slice a n c] w fun e w' => ∃ a', e = .returned (.slice a' n n) ∧ Rd16 w' w.heap.size a' n n xs ∧ Fr [] w w' := by
  cases a with
  | some x => exact (clone16_some b x n c xs w h hb).mono fun e w' ⟨h1, h2, h3⟩ => ⟨_, h1, h2, h3⟩
  | none =>
    have h0 := h.nil rfl
    have hc := h.cap
    obtain rfl : n = 0 := by omega
    refine (clone16_nil 0 c w).mono fun e w' ⟨h1, h2⟩ => ⟨none, h1, ?_, ?_⟩
    · obtain rfl : xs = [] := List.length_eq_zero_iff.1 h.len
      exact Rd16.empty _ _
    · subst h2; exact Fr.refl _ _


end Go.Proofs.Qxb6615713a
