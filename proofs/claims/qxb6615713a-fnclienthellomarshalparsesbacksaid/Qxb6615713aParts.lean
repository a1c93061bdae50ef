/-
  THE PLAIN PARTS: what a slice of bytes reads as in a world (Rd), what a reader and a writer hold (RdrAt, WrAt), what a step leaves alone (Fr, WFr). No walk here.
-/
import Derived.Test.Qxb6615713aRows
import Derived.WalkKit
import Derived.ProofKit
import Derived.WalkSpells
import Derived.WalkLawsBesides
namespace Go.Proofs.Qxb6615713a
open Go.RowKit
set_option linter.unusedSimpArgs false
set_option linter.unusedVariables false

/-- The slice (a, n, c) reads as the bytes xs; its cells lie in block b (any b where it is empty). -/
structure Rd (w : World) (b : Nat) (a : Option Addr) (n c : Nat) (xs : List Int) : Prop where
  len : xs.length = n
  cap : n ≤ c
  max : c ≤ maxLen
  nil : a = none → c = 0
  cell : 0 < n → ∃ o, a = some ⟨b, o, none⟩ ∧ ∀ j, j < n → w.cell? ⟨b, o + j, none⟩ = some (.int .u8 (xs.getD j 0))
  wf : ∀ x ∈ xs, 0 ≤ x ∧ x ≤ 255

theorem Rd.move {w w' : World} {b : Nat} {a : Option Addr} {n c : Nat} {xs : List Int} (h : Rd w b a n c xs) (hb : 0 < n → w'.heap[b]? = w.heap[b]?) : Rd w' b a n c xs := by
  refine ⟨h.len, h.cap, h.max, h.nil, fun hn => ?_, h.wf⟩
  obtain ⟨o, rfl, hc⟩ := h.cell hn
  exact ⟨o, rfl, fun j hj => (World.cell?_of_block (w := w) (hb hn)).trans (hc j hj)⟩

theorem Rd.lt {w : World} {b : Nat} {a : Option Addr} {n c : Nat} {xs : List Int} (h : Rd w b a n c xs) (hn : 0 < n) : b < w.heap.size := by
  obtain ⟨o, _, hc⟩ := h.cell hn
  exact World.block_lt_of_cell? w _ (hc 0 hn)

theorem Rd.empty (w : World) (b : Nat) : Rd w b none 0 0 [] :=
  ⟨rfl, Nat.le_refl _, Nat.zero_le _, fun _ => rfl, fun h => absurd h (by omega), fun _ h => by cases h⟩

theorem Rd.take {w : World} {b : Nat} {a : Option Addr} {n c : Nat} {xs : List Int} (h : Rd w b a n c xs) {k : Nat} (hk : k ≤ n) : Rd w b a k k (xs.take k) := by
  have hl := h.len
  have hcap := h.cap
  have hmax := h.max
  refine ⟨by simp; omega, Nat.le_refl _, by omega, fun e => by have := h.nil e; omega, fun h0 => ?_, fun x hx => h.wf x (List.mem_of_mem_take hx)⟩
  obtain ⟨o, rfl, hc⟩ := h.cell (by omega)
  refine ⟨o, rfl, fun j hj => ?_⟩
  rw [hc j (by omega)]
  simp [List.getD, List.getElem?_take, hj]

theorem Rd.drop {w : World} {b : Nat} {a : Option Addr} {n c : Nat} {xs : List Int} (h : Rd w b a n c xs) {k : Nat} (hk : k ≤ n) : Rd w b (Option.map (fun x => x.add k) a) (n - k) (c - k) (xs.drop k) := by
  have hl := h.len
  have hcap := h.cap
  have hmax := h.max
  refine ⟨by simp; omega, by omega, by omega, fun e => by have := h.nil (by simpa using e); omega, fun h0 => ?_, fun x hx => h.wf x (List.mem_of_mem_drop hx)⟩
  obtain ⟨o, rfl, hc⟩ := h.cell (by omega)
  refine ⟨o + k, by simp [Addr.add_lit], fun j hj => ?_⟩
  rw [Nat.add_assoc, hc (k + j) (by omega)]
  simp [List.getD, List.getElem?_drop]

theorem Rd.drop_end {w : World} {b : Nat} {a : Option Addr} {n c : Nat} {xs : List Int} (h : Rd w b a n c xs) {k : Nat} (hk : k ≤ n) (hc : c = k) : Rd w b a (n - k) 0 (xs.drop k) := by
  have hl := h.len
  have hcap := h.cap
  have e : n - k = 0 := by omega
  rw [e]
  exact ⟨by simp; omega, Nat.le_refl _, Nat.zero_le _, fun _ => rfl, fun h0 => absurd h0 (by omega), fun x hx => h.wf x (List.mem_of_mem_drop hx)⟩

/-- What a step leaves alone: every old block that is not listed. -/
structure Fr (S : List Nat) (w w' : World) : Prop where
  os : w'.os = w.os
  tape : w'.tape = w.tape
  output : w'.output = w.output
  size : w.heap.size ≤ w'.heap.size
  block : ∀ k, k < w.heap.size → k ∉ S → w'.heap[k]? = w.heap[k]?

theorem Fr.refl (S : List Nat) (w : World) : Fr S w w := ⟨rfl, rfl, rfl, Nat.le_refl _, fun _ _ _ => rfl⟩
theorem Fr.trans {S : List Nat} {a b c : World} (h : Fr S a b) (k : Fr S b c) : Fr S a c :=
  ⟨k.os.trans h.os, k.tape.trans h.tape, k.output.trans h.output, Nat.le_trans h.size k.size, fun i hi hn => (k.block i (Nat.lt_of_lt_of_le hi h.size) hn).trans (h.block i hi hn)⟩
theorem Fr.drew {S : List Nat} {a w : World} (h : Fr S a w) : Fr S a w.drew := ⟨h.os, h.tape, h.output, h.size, h.block⟩
theorem Fr.alloc (S : List Nat) (w : World) (o : Obj) : Fr S w (w.alloc o) :=
  ⟨rfl, rfl, rfl, by simp, fun k hk _ => Below.heap_alloc _ _ _ hk⟩
theorem Fr.setCell {S : List Nat} (w : World) (p : Addr) (u : Value) (hp : p.block ∈ S) : Fr S w (w.setCell p u) :=
  ⟨rfl, rfl, rfl, by simp [World.setCell], fun k _ hk => Below.heap_setCell _ _ _ _ (fun e => hk (e ▸ hp))⟩
theorem Fr.mono {S T : List Nat} {w w' : World} (h : Fr S w w') (hs : ∀ k, k < w.heap.size → k ∈ S → k ∈ T) : Fr T w w' :=
  ⟨h.os, h.tape, h.output, h.size, fun k hk hn => h.block k hk (fun hm => hn (hs k hk hm))⟩
theorem Fr.below {S : List Nat} {w w' : World} {B : Nat} (h : Fr S w w') (hB : B ≤ w.heap.size) (hs : ∀ k, k ∈ S → B ≤ k) : Below B w w' :=
  ⟨h.os, h.tape, h.output, h.size, fun k hk => h.block k (by omega) (fun hm => by have := hs k hm; omega)⟩

/-- A block of two cells. -/
theorem two_cell0 {w : World} {b : Nat} {u v : Value} {t : TypeId} (h : w.heap[b]? = some (.cells #[u, v] t (0, 0))) : w.cell? ⟨b, 0, none⟩ = some u := by simp [World.cell?, h]
theorem two_cell1 {w : World} {b : Nat} {u v : Value} {t : TypeId} (h : w.heap[b]? = some (.cells #[u, v] t (0, 0))) : w.cell? ⟨b, 1, none⟩ = some v := by simp [World.cell?, h]
theorem two_free {w : World} {b o : Nat} {u v : Value} {t : TypeId} (h : w.heap[b]? = some (.cells #[u, v] t (0, 0))) : w.frozen? ⟨b, o, none⟩ = false := by simp [World.frozen?, h]
theorem two_set0 {w : World} {b : Nat} {u v x : Value} {t : TypeId} (h : w.heap[b]? = some (.cells #[u, v] t (0, 0))) : (w.setCell ⟨b, 0, none⟩ x).heap[b]? = some (.cells #[x, v] t (0, 0)) := by
  have hlt := lt_of_block h
  have h' : w.heap[b] = .cells #[u, v] t (0, 0) := by simpa [Array.getElem?_eq_getElem hlt] using h
  show (w.heap.modify b _)[b]? = _
  rw [Array.getElem?_eq_getElem (by simpa using hlt), Array.getElem_modify_self, h']
  rfl
theorem two_set1 {w : World} {b : Nat} {u v x : Value} {t : TypeId} (h : w.heap[b]? = some (.cells #[u, v] t (0, 0))) : (w.setCell ⟨b, 1, none⟩ x).heap[b]? = some (.cells #[u, x] t (0, 0)) := by
  have hlt := lt_of_block h
  have h' : w.heap[b] = .cells #[u, v] t (0, 0) := by simpa [Array.getElem?_eq_getElem hlt] using h
  show (w.heap.modify b _)[b]? = _
  rw [Array.getElem?_eq_getElem (by simpa using hlt), Array.getElem_modify_self, h']
  rfl

/-- A reader in block r: its rest is the slice (a, n, c), its mark is f. -/
def RdrAt (w : World) (r : Nat) (a : Option Addr) (n c : Nat) (f : Bool) : Prop := w.heap[r]? = some (.cells #[.slice a n c, .bool f] 78 (0, 0))

/-- Big-endian value of a row of bytes. -/
def beV (xs : List Int) : Int := xs.foldl (fun v c => v * 256 + c) 0

theorem beV_snoc (xs : List Int) (c : Int) : beV (xs ++ [c]) = beV xs * 256 + c := by simp [beV, List.foldl_append]

theorem beV_bound : ∀ (xs : List Int), (∀ x ∈ xs, 0 ≤ x ∧ x ≤ 255) → 0 ≤ beV xs ∧ beV xs < 256 ^ xs.length := by
  intro xs
  suffices h : ∀ n (ys : List Int), ys.length = n → (∀ x ∈ ys, 0 ≤ x ∧ x ≤ 255) → 0 ≤ beV ys ∧ beV ys < 256 ^ ys.length from h _ xs rfl
  intro n
  induction n with
  | zero => intro ys hl _; rw [List.length_eq_zero_iff.1 hl]; simp [beV]
  | succ n ih =>
    intro ys hl hw
    have hne : ys ≠ [] := by intro e; rw [e] at hl; simp at hl
    have he := List.dropLast_concat_getLast hne
    have h1 := ih ys.dropLast (by simp; omega) (fun x hx => hw x (List.dropLast_subset _ hx))
    have h2 := hw (ys.getLast hne) (List.getLast_mem hne)
    rw [← he, beV_snoc]
    have hlen : (ys.dropLast ++ [ys.getLast hne]).length = ys.dropLast.length + 1 := by simp
    rw [hlen, Int.pow_succ]
    omega

theorem u32_or_byte (v c : Int) (h0 : 0 ≤ v) (h1 : v < 16777216) (h2 : 0 ≤ c) (h3 : c ≤ 255) : bits BinOp.or IntKind.u32 (v * 256 % 4294967296) (c % 4294967296) = v * 256 + c := by
  rw [Int.emod_eq_of_lt (by omega) (by omega), Int.emod_eq_of_lt (by omega) (by omega), u32_or _ _ (by omega) (by omega) (by omega) (by omega)]
  obtain ⟨v, rfl⟩ := Int.eq_ofNat_of_zero_le h0
  obtain ⟨c, rfl⟩ := Int.eq_ofNat_of_zero_le h2
  have e : ((v : Int) * 256).toNat = v <<< 8 := by rw [Nat.shiftLeft_eq]; omega
  have hc : c < 2 ^ 8 := by omega
  rw [e, Int.toNat_natCast, ← Nat.shiftLeft_add_eq_or_of_lt hc, Nat.shiftLeft_eq]
  omega

theorem getD_bound {xs : List Int} (h : ∀ x ∈ xs, 0 ≤ x ∧ x ≤ 255) (j : Nat) : 0 ≤ xs.getD j 0 ∧ xs.getD j 0 ≤ 255 := by
  by_cases hj : j < xs.length
  · have := h (xs[j]) (List.getElem_mem hj)
    simpa [List.getD, hj] using this
  · simp [List.getD, hj]

theorem take_snoc {xs : List Int} {j : Nat} (hj : j < xs.length) : xs.take (j + 1) = xs.take j ++ [xs.getD j 0] := by
  rw [List.take_succ_eq_append_getElem hj]
  simp [List.getD, hj]

theorem Try.cells22 : Try.prog.cellsOf 22 = 1 := by kernel_rfl
theorem Try.cells5 : Try.prog.cellsOf 5 = 1 := by kernel_rfl
theorem Try.info5 : (Try.prog.info? 5).map (fun i => (i.zero, i.size, i.bytes)) = some (some (.int .u8 0), 1, 1) := by kernel_rfl

end Go.Proofs.Qxb6615713a
