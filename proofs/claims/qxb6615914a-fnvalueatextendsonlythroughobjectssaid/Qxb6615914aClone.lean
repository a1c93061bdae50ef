/- A COPY OF A SLICE OF STRINGS: 'make' and 'copy' as run equations. -/
import Derived.Test.Qxb6615914aModel
import Derived.Test.Qxb6615914aCount
import Derived.Laws.CopyOwn
import Derived.Deep.DeepCutAuto
namespace Go.Proofs.Qxb6615914a
open Go.RowKit
set_option linter.unusedSimpArgs false
set_option linter.unusedVariables false

theorem Try.info9 : (Try.prog.info? 9).map (fun i => (i.zero, i.size, i.bytes)) = some (some (.string ⟨#[]⟩), 1, 16) := by kernel_rfl
theorem Try.size9 : (Try.prog.info? 9).map (·.size) = some 1 := by kernel_rfl

/-- A new row of m strings, the first n of them copied. -/
theorem row_runs (w : World) (b : Nat) (a : Option Addr) (n c m : Nat) (ss : List Str) (h : RdS w b a n c ss) (hnm : n ≤ m) (hm : m ≤ 65537) :
    ∃ g w1 w2, (Instr.makeSlice 22 (.int .i64 m) (.int .i64 m)).run Try.prog w = .ok (.slice (some ⟨g, 0, none⟩) m m) w1 ∧
      (∀ ty, (Builtin.copy_ #[22, 22] ty #[.slice (some ⟨g, 0, none⟩) m m, .slice a n c]).run Try.prog w1 = .ok (goInt n) w2) ∧
      w2.heap[g]? = some (.cells (ss.map Value.string ++ List.replicate (m - n) (Value.string ByteArray.empty)).toArray 9 (0, 0)) ∧ Fr [] w w2 ∧ w.heap.size ≤ g := by
  obtain ⟨i0, hi, hz0, hz1, hz2⟩ := info_parts Try.info9
  obtain ⟨w1, hrun, hown, hgr⟩ := run_make_full (P := Try.prog) w w.heap.size 22 9 i0 (.string ⟨#[]⟩) 1 Try.underlying22 hi hz0 hz1 .i64 .i64 m (by rw [hz2]; omega) (by unfold maxLen; omega) (Nat.le_refl _)
  have hlen := h.len
  obtain ⟨_, hh⟩ := hown
  rcases hh with ⟨h1, _⟩ | ⟨g, cap, cur, e, hb, hg, _, hcm, hsz, htk⟩
  · simp at h1
  simp only [Value.slice.injEq, Option.some.injEq, Addr.mk.injEq] at e
  obtain ⟨⟨rfl, _⟩, _, rfl⟩ := e
  have hcur : cur.toList = List.replicate m (Value.string ByteArray.empty) := by
    rw [Nat.mul_one] at hsz htk
    rw [List.take_of_length_le (by simp [hsz]), show (Value.string ⟨#[]⟩).cells = #[Value.string ByteArray.empty] from rfl, toList_madeCells_one] at htk
    exact htk
  have hcur' : cur = (List.replicate m (Value.string ByteArray.empty)).toArray := by rw [← hcur]
  by_cases hn : n = 0
  · subst hn
    obtain rfl : ss = [] := List.length_eq_zero_iff.1 hlen
    refine ⟨w.heap.size, w1, w1, hrun, fun ty => ?_, ?_, Fr.grown hgr _, Nat.le_refl _⟩
    · exact run_copy_none w1 22 22 ty 9 _ _ _ _ _ _ Try.underlying22 Try.size9 (by simp)
    · rw [hg, hcur']; simp
  · obtain ⟨o, rfl, hc⟩ := h.cell (by omega)
    have hsrc : ∀ j v, (ss.map Value.string)[j]? = some v → w1.cell? ((⟨b, o, none⟩ : Addr).add j) = some v := by
      intro j v hv
      have hj : j < n := by
        have := (List.getElem?_eq_some_iff.1 hv).1
        simpa [hlen] using this
      rw [Addr.add_lit]
      have e1 := (World.cell?_of_block (a := ⟨b, o + j, none⟩) ((Fr.grown hgr []).block b (World.block_lt_of_cell? w _ (hc j hj)) (by simp))).trans (hc j hj)
      rw [e1, ← hv]
      simp [List.getD, List.getElem?_eq_getElem (show j < ss.length by omega)]
    have hc := fun ty => run_copy_row (P := Try.prog) w1 22 22 ty 9 w.heap.size 0 m m ⟨b, o, none⟩ n c cur 9 (ss.map Value.string) Try.underlying22 Try.size9 hg (by simp only [List.length_map, hlen]; exact (Nat.min_eq_left hnm).symm) hsrc (by rw [hcur']; simp [hlen]; omega) (by intro v hv; obtain ⟨s, _, rfl⟩ := List.mem_map.1 hv; rfl)
    refine ⟨w.heap.size, w1, w1.setRow w.heap.size (List.take 0 cur.toList ++ ss.map Value.string ++ List.drop (0 + (ss.map Value.string).length) cur.toList).toArray, hrun, fun ty => ?_, ?_, ?_, Nat.le_refl _⟩
    · rw [hc ty]
      simp [hlen]
    · rw [setRow_heap w1 _ cur _ 9 _ hg, hcur]
      simp [hlen]
    · have f1 := Fr.grown hgr []
      exact ⟨f1.os, f1.tape, f1.output, by have := f1.size; simpa [World.setRow] using this, fun k hk hn => (setRow_other _ _ _ _ (by omega)).trans (f1.block k hk hn)⟩

theorem RdS.of_block {w : World} {g : Nat} {ss : List Str} (hg : w.heap[g]? = some (.cells (ss.map Value.string).toArray 9 (0, 0))) (hm : ss.length ≤ maxLen) (hw : ∀ s ∈ ss, s.size ≤ maxLen) :
    RdS w g (some ⟨g, 0, none⟩) ss.length ss.length ss := by
  refine ⟨rfl, Nat.le_refl _, hm, fun e => by simp at e, fun h0 => ⟨0, rfl, fun j hj => ?_⟩, hw⟩
  simp [World.cell?, hg, List.getD, List.getElem?_eq_getElem hj]

/-- The whole slice copied. -/
theorem clone_runs (w : World) (b : Nat) (x : Addr) (n c : Nat) (ss : List Str) (h : RdS w b (some x) n c ss) (hm : n ≤ 65536) :
    ∃ g w1 w2, (Instr.makeSlice 22 (.int .i64 n) (.int .i64 n)).run Try.prog w = .ok (.slice (some ⟨g, 0, none⟩) n n) w1 ∧
      (∀ ty, (Builtin.copy_ #[22, 22] ty #[.slice (some ⟨g, 0, none⟩) n n, .slice (some x) n c]).run Try.prog w1 = .ok (goInt n) w2) ∧
      RdS w2 g (some ⟨g, 0, none⟩) n n ss ∧ Fr [] w w2 := by
  obtain ⟨g, w1, w2, h1, h2, h3, h4, _⟩ := row_runs w b (some x) n c n ss h (Nat.le_refl _) (by omega)
  refine ⟨g, w1, w2, h1, h2, ?_, h4⟩
  rw [Nat.sub_self, List.replicate_zero, List.append_nil] at h3
  have := RdS.of_block h3 (by rw [h.len]; unfold maxLen; omega) h.wf
  rw [h.len] at this
  exact this

end Go.Proofs.Qxb6615914a
