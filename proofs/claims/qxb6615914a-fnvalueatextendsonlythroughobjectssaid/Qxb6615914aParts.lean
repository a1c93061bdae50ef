/-
  THE PLAIN PARTS: what a slice of strings reads as in a world (RdS), what a step leaves alone (Fr), and the weak contracts of the byte counts (some number, some answer; the world as it was).
-/
import Derived.Test.Qxb6615914aRows
import Derived.WalkKit
import Derived.ProofKit
import Derived.WalkSpells
import Derived.WalkLawsBesides
namespace Go.Proofs.Qxb6615914a
open Go.RowKit
set_option linter.unusedSimpArgs false
set_option linter.unusedVariables false

/-- The slice (a, n, c) reads as the strings ss; its cells lie in block b (any b where it is empty). -/
structure RdS (w : World) (b : Nat) (a : Option Addr) (n c : Nat) (ss : List ByteArray) : Prop where
  len : ss.length = n
  cap : n ≤ c
  max : c ≤ maxLen
  nil : a = none → c = 0
  cell : 0 < n → ∃ o, a = some ⟨b, o, none⟩ ∧ ∀ j, j < n → w.cell? ⟨b, o + j, none⟩ = some (.string (ss.getD j ByteArray.empty))
  wf : ∀ s ∈ ss, s.size ≤ maxLen

theorem RdS.move {w w' : World} {b : Nat} {a : Option Addr} {n c : Nat} {ss : List ByteArray} (h : RdS w b a n c ss) (hb : 0 < n → w'.heap[b]? = w.heap[b]?) : RdS w' b a n c ss := by
  refine ⟨h.len, h.cap, h.max, h.nil, fun hn => ?_, h.wf⟩
  obtain ⟨o, rfl, hc⟩ := h.cell hn
  exact ⟨o, rfl, fun j hj => (World.cell?_of_block (w := w) (hb hn)).trans (hc j hj)⟩

theorem RdS.lt {w : World} {b : Nat} {a : Option Addr} {n c : Nat} {ss : List ByteArray} (h : RdS w b a n c ss) (hn : 0 < n) : b < w.heap.size := by
  obtain ⟨o, _, hc⟩ := h.cell hn
  exact World.block_lt_of_cell? w _ (hc 0 hn)

theorem RdS.empty (w : World) (b : Nat) : RdS w b none 0 0 [] :=
  ⟨rfl, Nat.le_refl _, Nat.zero_le _, fun _ => rfl, fun h => absurd h (by omega), fun _ h => by cases h⟩

/-- A string of the row. -/
theorem RdS.at_wf {w : World} {b : Nat} {a : Option Addr} {n c : Nat} {ss : List ByteArray} (h : RdS w b a n c ss) {j : Nat} (hj : j < n) : (ss.getD j ByteArray.empty).size ≤ maxLen := by
  have hl := h.len
  have e : ss.getD j ByteArray.empty = ss[j]'(by omega) := by simp [List.getD, List.getElem?_eq_getElem (show j < ss.length by omega)]
  rw [e]
  exact h.wf _ (List.getElem_mem _)

/-- What a step leaves alone: every old block that is not listed. -/
structure Fr (S : List Nat) (w w' : World) : Prop where
  os : w'.os = w.os
  tape : w'.tape = w.tape
  output : w'.output = w.output
  size : w.heap.size ≤ w'.heap.size
  block : ∀ k, k < w.heap.size → k ∉ S → w'.heap[k]? = w.heap[k]?

theorem Fr.refl (S : List Nat) (w : World) : Fr S w w := ⟨rfl, rfl, rfl, Nat.le_refl _, fun _ _ _ => rfl⟩
theorem Fr.trans {S : List Nat} {a b c : World} (h : Fr S a b) (k : Fr S b c) : Fr S a c :=
  ⟨k.os.trans h.os, k.tape.trans h.tape, k.output.trans h.output, Nat.le_trans h.size k.size, fun i hi hn => (k.block i (Nat.lt_of_lt_of_le hi h.size) hn).trans (h.block i hi hn)⟩
theorem Fr.drew {S : List Nat} {a w : World} (h : Fr S a w) : Fr S a w.drew := ⟨h.os, h.tape, h.output, h.size, h.block⟩
theorem Fr.grown {w w' : World} (h : w.grownBy w' none) (S : List Nat) : Fr S w w' := ⟨h.os, h.tape, h.output, h.size, fun k hk _ => h.block k hk (by simp)⟩
theorem Fr.grown_some {S : List Nat} {w w' : World} {b : Nat} (h : w.grownBy w' (some b)) (hb : b ∈ S) : Fr S w w' := ⟨h.os, h.tape, h.output, h.size, fun k hk hn => h.block k hk (by intro e; cases e; exact hn hb)⟩
theorem Fr.mono {S T : List Nat} {w w' : World} (h : Fr S w w') (hs : ∀ k, k < w.heap.size → k ∈ S → k ∈ T) : Fr T w w' :=
  ⟨h.os, h.tape, h.output, h.size, fun k hk hn => h.block k hk (fun hm => hn (hs k hk hm))⟩
theorem Fr.below {S : List Nat} {w w' : World} {B : Nat} (h : Fr S w w') (hB : B ≤ w.heap.size) (hs : ∀ k, k ∈ S → B ≤ k) : Below B w w' :=
  ⟨h.os, h.tape, h.output, h.size, fun k hk => h.block k (by omega) (fun hm => by have := hs k hm; omega)⟩
theorem RdS.fr {w w' : World} {b : Nat} {a : Option Addr} {n c : Nat} {ss : List ByteArray} {S : List Nat} (h : RdS w b a n c ss) (hf : Fr S w w') (hb : 0 < n → b ∉ S) : RdS w' b a n c ss :=
  h.move fun hn => hf.block b (h.lt hn) (hb hn)

/-- Some number; the world as it was. -/
def APost (w : World) (e : Ending) (w' : World) : Prop := (∃ t : Int, e = .returned (.int .i64 t)) ∧ w = w'
/-- Some answer; the world as it was. -/
def ZPost (w : World) (e : Ending) (w' : World) : Prop := (∃ t : Bool, e = .returned (.bool t)) ∧ w = w'
theorem APost.mk (w : World) (t : Int) : APost w (.returned (.int .i64 t)) w := ⟨⟨t, rfl⟩, rfl⟩
theorem ZPost.mk (w : World) (t : Bool) : ZPost w (.returned (.bool t)) w := ⟨⟨t, rfl⟩, rfl⟩

set_option maxHeartbeats 400000 in
theorem add_any (b : Nat) (a : Option Addr) (n c : Nat) (ss : List ByteArray) (t : Int) (w : World) (h : RdS w b a n c ss) :
    Calls Try.prog 10 #[.int .i64 t, .slice a n c] w (APost w) := by
  have hcap1 := h.cap
  have hmax1 := h.max
  unfold maxLen at hmax1
  go_enter Try.func10, Try.ntmps10
  go_wp2
  · go_ret
    exact APost.mk _ _
  go_loopw [0, 5] (fun s i wr => ∃ (j : Nat) (y : Int), j ≤ n ∧ i = .int .i64 j ∧ s = .int .i64 y ∧ w = wr) (fun _ i _ => n - (intOf i).toNat)
  case atStart => exact ⟨0, _, Nat.zero_le _, rfl, rfl, rfl⟩
  case round =>
    obtain ⟨j, y, hj, rfl, rfl, rfl⟩ := hrel
    by_cases hlt : j < n
    · obtain ⟨o, rfl, hc⟩ := h.cell (by omega)
      have e1 := hc j hlt
      clear h hc
      generalize ss.getD j ByteArray.empty = s at e1
      go_wp2
      · go_roundw
        case rel => exact ⟨j + 1, _, by omega, by go_num, rfl, by simp⟩
        case measure => simp [intOf]; omega
      · go_ret
        exact APost.mk _ _
    · go_wp2
      go_ret
      exact APost.mk _ _

/-- A slice that reads as some strings. -/
def IsS (w : World) (a : Option Addr) (n c : Nat) : Prop := ∃ b ss, RdS w b a n c ss
theorem add_is (a : Option Addr) (n c : Nat) (t : Int) (w : World) (h : IsS w a n c) : Calls Try.prog 10 #[.int .i64 t, .slice a n c] w (APost w) := by
  obtain ⟨b, ss, h⟩ := h
  exact add_any b a n c ss t w h
end Go.Proofs.Qxb6615914a
