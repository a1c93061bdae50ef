/- THE PATH ONE NAME LONGER: how it is laid; where it leads. -/
import Derived.Test.Qxb6615914aClone
namespace Go.Proofs.Qxb6615914a
open Go.RowKit
set_option linter.unusedSimpArgs false
set_option linter.unusedVariables false

theorem RdS.of_own {w : World} {g n : Nat} {ss : List Str} (ho : w.ownsRow g 9 1 (.slice (some ⟨g, 0, none⟩) n n) n (ss.map Value.string)) (hl : ss.length = n) (hm : n ≤ maxLen) (hw : ∀ s ∈ ss, s.size ≤ maxLen) :
    RdS w g (some ⟨g, 0, none⟩) n n ss := by
  refine ⟨hl, Nat.le_refl _, hm, fun e => by simp at e, fun h0 => ⟨0, rfl, fun j hj => ?_⟩, hw⟩
  rw [Nat.zero_add, ho.cellAt j (by omega)]
  simp [List.getD, List.getElem?_eq_getElem (show j < ss.length by omega)]

theorem ext_runs (w : World) (b : Nat) (a : Option Addr) (n c : Nat) (ss : List Str) (x : Str) (h : RdS w b a n c ss) (hx : x.size ≤ maxLen) (hn : n ≤ 65536) :
    ∃ g w1 w2, (Instr.makeSlice 22 (.int .i64 ((n : Int) + 1)) (.int .i64 ((n : Int) + 1))).run Try.prog w = .ok (.slice (some ⟨g, 0, none⟩) (n + 1) (n + 1)) w1 ∧
      (∀ ty, (Builtin.copy_ #[22, 22] ty #[.slice (some ⟨g, 0, none⟩) (n + 1) (n + 1), .slice a n c]).run Try.prog w1 = .ok (goInt n) w2) ∧
      w2.cell? ⟨g, n, none⟩ = some (.string ByteArray.empty) ∧ w2.frozen? ⟨g, n, none⟩ = false ∧
      RdS (w2.setCell ⟨g, n, none⟩ (.string x)) g (some ⟨g, 0, none⟩) (n + 1) (n + 1) (ss ++ [x]) ∧ Fr [] w (w2.setCell ⟨g, n, none⟩ (.string x)) := by
  obtain ⟨g, w1, w2, h1, h2, hg, hf, hge⟩ := row_runs w b a n c (n + 1) ss h (by omega) (by omega)
  have hlen := h.len
  have e1 : n + 1 - n = 1 := by omega
  rw [e1] at hg
  have ho : w2.ownsRow g 9 1 (.slice (some ⟨g, 0, none⟩) (n + 1) (n + 1)) (n + 1) (ss.map Value.string ++ List.replicate 1 (Value.string ByteArray.empty)) := by
    refine ⟨by simp [hlen], .inr ⟨g, n + 1, _, rfl, Nat.le_refl _, hg, Nat.le_refl _, by unfold maxLen; omega, by simp [hlen], ?_⟩⟩
    exact List.take_of_length_le (by simp [hlen])
  have hs := ho.stored n (.string x)
  have hset : (ss.map Value.string ++ List.replicate 1 (Value.string ByteArray.empty)).set n (.string x) = (ss ++ [x]).map Value.string := by
    rw [List.set_append_right _ _ (by simp [hlen])]
    simp [hlen]
  rw [hset] at hs
  refine ⟨g, w1, w2, h1, h2, ?_, ho.frozenAt n, RdS.of_own hs.1 (by simp [hlen]) (by unfold maxLen; omega) ?_, ?_⟩
  · rw [ho.cellAt n (by omega), List.getElem?_append_right (by simp [hlen])]
    simp [hlen]
  · intro s hs'
    rcases List.mem_append.1 hs' with h' | h'
    · exact h.wf s h'
    · rw [List.mem_singleton.1 h']; exact hx
  · exact ⟨hs.2.os.trans hf.os, hs.2.tape.trans hf.tape, hs.2.output.trans hf.output, Nat.le_trans hf.size hs.2.size, fun k hk hn => (hs.2.block k (Nat.lt_of_lt_of_le hk hf.size) (by simp; omega)).trans (hf.block k hk hn)⟩

theorem topN_pos (ks : List Str) (sn : Str) : 1 ≤ topN ks sn := by
  unfold topN
  split
  · rename_i h
    cases ks with
    | nil => simp [memB] at h
    | cons a l =>
      have key : ∀ (l : List Str) (a : Str), 1 ≤ dist (a :: l) := by
        intro l
        induction l with
        | nil => intro a; simp [dist, memB]
        | cons b l ih => intro a; have := ih b; rw [dist]; omega
      exact key l a
  · omega
theorem dist_pos {ks : List Str} (h : ks ≠ []) : 1 ≤ dist ks := by
  cases ks with
  | nil => exact absurd rfl h
  | cons a l =>
    have := topN_pos (a :: l) a
    unfold topN at this
    rwa [if_pos (memB_iff.2 (List.mem_cons_self ..))] at this

/-- The places of a path and of one name more. -/
theorem ext_cases {s0 s1 s3 s4 ps : List Str} {sn x : Str} {r1 r2 : Option Pl} (hr1 : walkTo (look (s0.zip s1)) (look (s3.zip s4)) sn Pl.top ps = r1) (hr2 : walkTo (look (s0.zip s1)) (look (s3.zip s4)) sn Pl.top (ps ++ [x]) = r2) :
    (ps = [] ∧ r1 = some Pl.top ∧ (r2 = none ∨ r2 = some Pl.sub ∨ ∃ s, r2 = some (Pl.str s))) ∨
    (ps = [sn] ∧ r1 = some Pl.sub ∧ (r2 = none ∨ ((∃ s, r2 = some (Pl.str s)) ∧ 1 ≤ dist s3))) ∨
    ((∃ k, ps = [k] ∧ k ≠ sn) ∧ (r1 = none ∨ ∃ s, r1 = some (Pl.str s)) ∧ r2 = none) ∨
    (2 ≤ ps.length ∧ (r1 = none ∨ ∃ s, r1 = some (Pl.str s)) ∧ r2 = none) := by
  rw [walkTo_snoc, hr1] at hr2
  cases ps with
  | nil =>
    left
    obtain rfl : some Pl.top = r1 := hr1
    refine ⟨rfl, rfl, ?_⟩
    subst hr2
    simp only [Option.bind_some, step]
    split
    · exact .inr (.inl rfl)
    · cases look (s0.zip s1) x with
      | none => exact .inl rfl
      | some s => exact .inr (.inr ⟨s, rfl⟩)
  | cons k rest =>
    right
    have noStr : ∀ s, r1 = some (Pl.str s) → r2 = none := by
      intro s hs
      rw [hs] at hr2
      exact hr2.symm
    have noNone : r1 = none → r2 = none := by
      intro hs
      rw [hs] at hr2
      exact hr2.symm
    rw [walk_top] at hr1
    by_cases hk : k = sn
    · subst hk
      rw [if_pos rfl] at hr1
      cases rest with
      | nil =>
        left
        rw [walk_sub0] at hr1
        subst hr1
        refine ⟨rfl, rfl, ?_⟩
        subst hr2
        simp only [Option.bind_some, step]
        cases hl : look (s3.zip s4) x with
        | none => exact .inl rfl
        | some s =>
          refine .inr ⟨⟨s, rfl⟩, dist_pos ?_⟩
          intro e
          rw [e] at hl
          simp [look] at hl
      | cons k2 more =>
        right; right
        refine ⟨by simp, ?_⟩
        have : r1 = none ∨ ∃ s, r1 = some (Pl.str s) := by
          cases more with
          | nil =>
            rw [walk_sub1] at hr1
            cases hl : look (s3.zip s4) k2 with
            | none => rw [hl] at hr1; exact .inl hr1.symm
            | some s => rw [hl] at hr1; exact .inr ⟨s, hr1.symm⟩
          | cons k3 more => rw [walk_sub2] at hr1; exact .inl hr1.symm
        refine ⟨this, ?_⟩
        rcases this with h | ⟨s, h⟩
        · exact noNone h
        · exact noStr s h
    · rw [if_neg hk] at hr1
      have : r1 = none ∨ ∃ s, r1 = some (Pl.str s) := by
        split at hr1
        · cases hl : look (s0.zip s1) k with
          | none => rw [hl] at hr1; exact .inl hr1.symm
          | some s => rw [hl] at hr1; exact .inr ⟨s, hr1.symm⟩
        · exact .inl hr1.symm
      have h2 : r2 = none := by
        rcases this with h | ⟨s, h⟩
        · exact noNone h
        · exact noStr s h
      cases rest with
      | nil => exact .inr (.inl ⟨⟨k, rfl, hk⟩, this, h2⟩)
      | cons k2 more => exact .inr (.inr ⟨by simp, this, h2⟩)
end Go.Proofs.Qxb6615914a
