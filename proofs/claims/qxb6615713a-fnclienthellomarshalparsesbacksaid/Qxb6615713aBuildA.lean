/- THE STRUCT THAT buildClientHello FILLS: its 45 cells. -/
import Derived.Test.Qxb6615713aClone16
import Derived.Deep.MidRow
namespace Go.Proofs.Qxb6615713a
open Go.RowKit
set_option linter.unusedSimpArgs false
set_option linter.unusedVariables false

/-- The 45 cells of block q hold c, and may be written. -/
def CAt (w : World) (q : Nat) (c : Nat → Value) : Prop := q < w.heap.size ∧ ∀ j, j < 45 → w.cell? ⟨q, j, none⟩ = some (c j) ∧ w.frozen? ⟨q, j, none⟩ = false
theorem CAt.move {w w' : World} {q : Nat} {c : Nat → Value} (h : CAt w q c) (hs : w.heap.size ≤ w'.heap.size) (hb : w'.heap[q]? = w.heap[q]?) : CAt w' q c :=
  ⟨by have := h.1; omega, fun j hj => ⟨(World.cell?_of_block (w := w) hb).trans (h.2 j hj).1, (World.frozen?_of_block (w := w) hb).trans (h.2 j hj).2⟩⟩
theorem CAt.fr {w w' : World} {q : Nat} {c : Nat → Value} (h : CAt w q c) (hf : Fr [] w w') : CAt w' q c := h.move hf.size (hf.block q h.1 (by simp))
def upd (c : Nat → Value) (i : Nat) (v : Value) : Nat → Value := fun j => if j = i then v else c j
theorem CAt.set {w : World} {q : Nat} {c : Nat → Value} (h : CAt w q c) (i : Nat) (hi : i < 45) (v : Value) : CAt (w.setCell ⟨q, i, none⟩ v) q (upd c i v) := by
  refine ⟨by simpa [World.setCell] using h.1, fun j hj => ⟨?_, ?_⟩⟩
  · by_cases e : j = i
    · subst e
      simp only [upd, if_pos]
      exact World.cell?_setCell_same _ _ _ (h.2 j hj).1
    · simp only [upd, if_neg e]
      rw [World.cell?_setCell_other _ _ _ _ (fun e2 => e (by simpa using e2.symm))]
      exact (h.2 j hj).1
  · rw [World.frozen?_setCell]
    exact (h.2 j hj).2
theorem CAt.other {w : World} {q : Nat} {c : Nat → Value} (h : CAt w q c) (a : Addr) (ha : a.block ≠ q) (v : Value) : CAt (w.setCell a v) q c :=
  h.move (by simp [World.setCell]) (Below.heap_setCell _ _ _ _ (fun e => ha e.symm))
theorem CAt.drew {w : World} {q : Nat} {c : Nat → Value} (h : CAt w q c) : CAt w.drew q c := h
theorem CAt.new (w : World) (arr : Array Value) (hs : arr.size = 45) : CAt (w.alloc (.cells arr 90)) w.heap.size (fun j => arr.getD j undef) := by
  have hg : (w.alloc (.cells arr 90)).heap[w.heap.size]? = some (.cells arr 90 (0, 0)) := heap_alloc_new w _
  refine ⟨by simp, fun j hj => ⟨?_, frozen_of_row _ _ _ _ _ hg⟩⟩
  rw [cell_of_row _ _ _ _ _ _ hg]
  simp [Array.getD, hs, hj]
def updR (c : Nat → Value) (o : Nat) (vs : List Value) : Nat → Value := fun j => if o ≤ j ∧ j < o + vs.length then vs.getD (j - o) undef else c j
theorem CAt.setCells {w : World} {q : Nat} {c : Nat → Value} (h : CAt w q c) (o : Nat) (vs : List Value) (ho : o + vs.length ≤ 45) (hsz : (w.setCells q o vs).heap.size = w.heap.size) : CAt (w.setCells q o vs) q (updR c o vs) := by
  refine ⟨by rw [hsz]; exact h.1, fun j hj => ⟨?_, ?_⟩⟩
  · by_cases e : o ≤ j ∧ j < o + vs.length
    · simp only [updR, if_pos e]
      have h1 := World.cell?_setCells_in q vs o w (fun t ht => by rw [(h.2 (o + t) (by omega)).1]; rfl) (j - o) (by omega)
      rw [show o + (j - o) = j by omega] at h1
      rw [h1]
      simp [List.getD, show j - o < vs.length by omega]
    · simp only [updR, if_neg e]
      rw [World.cell?_setCells_out q vs o w _ (fun _ _ => by simp; omega)]
      exact (h.2 j hj).1
  · rw [World.frozen?_setCells]
    exact (h.2 j hj).2
theorem CAt.there {w : World} {q : Nat} {c : Nat → Value} (h : CAt w q c) (o n : Nat) (ho : o + n ≤ 45) : w.there q o n := fun j hj => by
  have := h.2 (o + j) (by omega)
  exact ⟨by rw [this.1]; rfl, this.2⟩
theorem setCells_frame (b : Nat) : ∀ (vs : List Value) (o : Nat) (w : World), (w.setCells b o vs).heap.size = w.heap.size ∧ (∀ k, k ≠ b → (w.setCells b o vs).heap[k]? = w.heap[k]?) ∧ (w.setCells b o vs).os = w.os ∧ (w.setCells b o vs).tape = w.tape ∧ (w.setCells b o vs).output = w.output
  | [], _, _ => ⟨rfl, fun _ _ => rfl, rfl, rfl, rfl⟩
  | v :: r, o, w => by
    obtain ⟨h1, h2, h3, h4, h5⟩ := setCells_frame b r (o + 1) (w.setCell ⟨b, o, none⟩ v)
    refine ⟨by rw [World.setCells, h1]; simp [World.setCell], fun k hk => by rw [World.setCells, h2 k hk]; exact Below.heap_setCell _ _ _ _ hk, h3, h4, h5⟩
theorem setCells_below {w : World} {B b : Nat} (hb : B ≤ b) (o : Nat) (vs : List Value) : Below B w (w.setCells b o vs) := by
  obtain ⟨h1, h2, h3, h4, h5⟩ := setCells_frame b vs o w
  exact ⟨h3, h4, h5, by rw [h1]; exact Nat.le_refl _, fun k hk => h2 k (by omega)⟩

theorem HelloAt.rndRange {w : World} {p q : Nat} {m : CH} (h : HelloAt w p q m) : w.rangeAt q 1 (bv m.rnd) := by
  intro j v hv
  have hj : j < m.rnd.length := by have := (List.getElem?_eq_some_iff.1 hv).1; simpa [bv] using this
  rw [h.rnd j (by have := h.rndL; omega)]
  rw [← hv]
  simp [bv, List.getD, hj]
theorem Try.info38 : (Try.prog.info? 38).map (·.size) = some 32 := by kernel_rfl


/-- The store of the whole random: what is known of the world behind it. -/
theorem wpList_store_rnd {ops : Array Oper} {rest : List Oper} {op : Oper} {a : Act} {w : World} {Q : Exit → Act → World → Prop} (hgd : op.guard = none) (x y : Operand) (ho : op.op = .store 38 x y)
    (q : Nat) (c : Nat → Value) (cs : List Value) (hx : a.eval x = .pointer (some ⟨q, 1, none⟩)) (hy : a.eval y = .agg cs.toArray) (hC : CAt w q c) (hl : cs.length = 32) (h1 : ∀ v ∈ cs, v.oneCell' = true)
    (h : ∀ w', CAt w' q (updR c 1 cs) → (∀ B, B ≤ q → Below B w w') → wpList Try.prog ops Q rest (a.put op.dst undef) w') : wpList Try.prog ops Q (op :: rest) a w := by
  refine wpList_store_mid hgd 38 x y ho q 1 cs.toArray hx hy (by simpa [hl] using hC.there 1 32 (by omega)) (by rw [Try.info38]; simp [hl]) (all_oneCell_toArray h1) ?_
  exact h _ (hC.setCells 1 cs (by omega) (setCells_frame q cs 1 w).1) (fun B hB => setCells_below hB 1 cs)

/-- The slice value v reads as xs; its block is not q. -/
def BOf (w : World) (q : Nat) (v : Value) (xs : List Int) : Prop := ∃ a n c b, v = .slice a n c ∧ Rd w b a n c xs ∧ (0 < n → b ≠ q)
def UOf (w : World) (q : Nat) (v : Value) (xs : List Int) : Prop := ∃ a n c b, v = .slice a n c ∧ Rd16 w b a n c xs ∧ (0 < n → b ≠ q)
theorem BOf.keep {w w' : World} {q : Nat} {v : Value} {xs : List Int} (h : BOf w q v xs) (hb : ∀ k, k < w.heap.size → k ≠ q → w'.heap[k]? = w.heap[k]?) : BOf w' q v xs := by
  obtain ⟨a, n, c, b, rfl, hd, hn⟩ := h
  exact ⟨a, n, c, b, rfl, hd.move fun h0 => hb b (hd.lt h0) (hn h0), hn⟩
theorem UOf.keep {w w' : World} {q : Nat} {v : Value} {xs : List Int} (h : UOf w q v xs) (hb : ∀ k, k < w.heap.size → k ≠ q → w'.heap[k]? = w.heap[k]?) : UOf w' q v xs := by
  obtain ⟨a, n, c, b, rfl, hd, hn⟩ := h
  exact ⟨a, n, c, b, rfl, hd.move fun h0 => hb b (hd.lt h0) (hn h0), hn⟩

/-- THE STATE OF THE FILLING: the struct in q holds c, its slices read as listed; the input stands; nothing old has turned. -/
structure BS (w0 w : World) (q Q : Nat) (m : CH) (c : Nat → Value) (LB LU : List (Nat × List Int)) : Prop where
  q0 : w0.heap.size = q
  cat : CAt w q c
  inp : HelloAt w q Q m
  low : Below q w0 w
  bs : ∀ x ∈ LB, BOf w q (c x.1) x.2
  us : ∀ x ∈ LU, UOf w q (c x.1) x.2
theorem BS.fr {w0 w w' : World} {q Q : Nat} {m : CH} {c : Nat → Value} {LB LU : List (Nat × List Int)} (h : BS w0 w q Q m c LB LU) (hf : Fr [] w w') : BS w0 w' q Q m c LB LU := by
  have hb : Below q w w' := hf.below (by have := h.cat.1; omega) (fun k hk => by cases hk)
  exact ⟨h.q0, h.cat.fr hf, h.inp.below hb, h.low.trans hb, fun x hx => (h.bs x hx).keep fun k hk _ => hf.block k hk (by simp), fun x hx => (h.us x hx).keep fun k hk _ => hf.block k hk (by simp)⟩
theorem BS.set {w0 w : World} {q Q : Nat} {m : CH} {c : Nat → Value} {LB LU : List (Nat × List Int)} (h : BS w0 w q Q m c LB LU) (i : Nat) (hi : i < 45) (v : Value) (h1 : ∀ x ∈ LB, x.1 ≠ i) (h2 : ∀ x ∈ LU, x.1 ≠ i) : BS w0 (w.setCell ⟨q, i, none⟩ v) q Q m (upd c i v) LB LU := by
  have hb : Below q w (w.setCell ⟨q, i, none⟩ v) := (Below.refl q w).setCell (Nat.le_refl _) v
  refine ⟨h.q0, h.cat.set i hi v, h.inp.below hb, h.low.trans hb, fun x hx => ?_, fun x hx => ?_⟩
  · rw [show upd c i v x.1 = c x.1 from if_neg (h1 x hx)]
    exact (h.bs x hx).keep fun k _ hk => Below.heap_setCell _ _ _ _ hk
  · rw [show upd c i v x.1 = c x.1 from if_neg (h2 x hx)]
    exact (h.us x hx).keep fun k _ hk => Below.heap_setCell _ _ _ _ hk
theorem BS.addB {w0 w : World} {q Q : Nat} {m : CH} {c : Nat → Value} {LB LU : List (Nat × List Int)} (h : BS w0 w q Q m c LB LU) (i : Nat) (xs : List Int) (hx : BOf w q (c i) xs) : BS w0 w q Q m c ((i, xs) :: LB) LU :=
  ⟨h.q0, h.cat, h.inp, h.low, fun x hm => by rcases List.mem_cons.1 hm with rfl | h'; exact hx; exact h.bs x h', h.us⟩
theorem BS.addU {w0 w : World} {q Q : Nat} {m : CH} {c : Nat → Value} {LB LU : List (Nat × List Int)} (h : BS w0 w q Q m c LB LU) (i : Nat) (xs : List Int) (hx : UOf w q (c i) xs) : BS w0 w q Q m c LB ((i, xs) :: LU) :=
  ⟨h.q0, h.cat, h.inp, h.low, h.bs, fun x hm => by rcases List.mem_cons.1 hm with rfl | h'; exact hx; exact h.us x h'⟩
/-- A cloned slice of bytes is stored into field i. -/
theorem BS.putB {w0 w w' : World} {q Q : Nat} {m : CH} {c : Nat → Value} {LB LU : List (Nat × List Int)} (h : BS w0 w q Q m c LB LU) (i : Nat) (hi : i < 45) (a : Option Addr) (n k : Nat) (xs : List Int) (hf : Fr [] w w') (hd : Rd w' w.heap.size a n k xs) (h1 : ∀ x ∈ LB, x.1 ≠ i) (h2 : ∀ x ∈ LU, x.1 ≠ i) :
    BS w0 (w'.setCell ⟨q, i, none⟩ (.slice a n k)) q Q m (upd c i (.slice a n k)) ((i, xs) :: LB) LU := by
  have hq := h.cat.1
  refine ((h.fr hf).set i hi _ h1 h2).addB i xs ?_
  rw [show upd c i (.slice a n k) i = .slice a n k from if_pos rfl]
  exact ⟨a, n, k, w.heap.size, rfl, hd.move fun _ => Below.heap_setCell _ _ _ _ (by show w.heap.size ≠ q; omega), fun _ => by omega⟩
theorem BS.putU {w0 w w' : World} {q Q : Nat} {m : CH} {c : Nat → Value} {LB LU : List (Nat × List Int)} (h : BS w0 w q Q m c LB LU) (i : Nat) (hi : i < 45) (a : Option Addr) (n k : Nat) (xs : List Int) (hf : Fr [] w w') (hd : Rd16 w' w.heap.size a n k xs) (h1 : ∀ x ∈ LB, x.1 ≠ i) (h2 : ∀ x ∈ LU, x.1 ≠ i) :
    BS w0 (w'.setCell ⟨q, i, none⟩ (.slice a n k)) q Q m (upd c i (.slice a n k)) LB ((i, xs) :: LU) := by
  have hq := h.cat.1
  refine ((h.fr hf).set i hi _ h1 h2).addU i xs ?_
  rw [show upd c i (.slice a n k) i = .slice a n k from if_pos rfl]
  exact ⟨a, n, k, w.heap.size, rfl, hd.move fun _ => Below.heap_setCell _ _ _ _ (by show w.heap.size ≠ q; omega), fun _ => by omega⟩

theorem BS.up {w0 w w' : World} {q Q : Nat} {m : CH} {c : Nat → Value} {LB LU : List (Nat × List Int)} (h : BS w0 w q Q m c LB LU) (hb : Below w.heap.size w w') : BS w0 w' q Q m c LB LU := by
  have hq := h.cat.1
  have hb' := hb.mono (Nat.le_of_lt hq)
  exact ⟨h.q0, h.cat.move hb.size (hb.block q hq), h.inp.below hb', h.low.trans hb', fun x hx => (h.bs x hx).keep fun k hk _ => hb.block k hk, fun x hx => (h.us x hx).keep fun k hk _ => hb.block k hk⟩
theorem setCell_block {w w' : World} {k : Nat} (h : w'.heap[k]? = w.heap[k]?) (a : Addr) (v : Value) : (w'.setCell a v).heap[k]? = (w.setCell a v).heap[k]? := by
  show (w'.heap.modify a.block _)[k]? = (w.heap.modify a.block _)[k]?
  rw [Array.getElem?_modify, Array.getElem?_modify, h]
theorem Below.setBoth {B : Nat} {w w' : World} (h : Below B w w') (a : Addr) (v : Value) : Below B (w.setCell a v) (w'.setCell a v) :=
  ⟨h.os, h.tape, h.output, by simpa [World.setCell] using h.size, fun k hk => setCell_block (h.block k hk) a v⟩
theorem upd_same (c : Nat → Value) (i : Nat) (v : Value) (h : c i = v) : upd c i v = c := by
  funext j
  unfold upd
  split
  · next e => rw [e, h]
  · rfl
theorem BS.cast {w0 w : World} {q Q : Nat} {m : CH} {c c' : Nat → Value} {LB LU : List (Nat × List Int)} (h : BS w0 w q Q m c LB LU) (e : c' = c) : BS w0 w q Q m c' LB LU := e ▸ h
theorem Try.info92 : (Try.prog.info? 92).map (fun i => (i.zero, i.size, i.bytes)) = some (some (.int .u16 0), 1, 2) := by kernel_rfl
theorem Try.info93 : (Try.prog.info? 93).map (fun i => (i.zero, i.size, i.bytes)) = some (some (.int .u16 0), 1, 2) := by kernel_rfl
theorem UOf.of_own {w : World} {q g n e : Nat} {xs : List Int} (h : w.ownsRow g e 1 (.slice (some ⟨g, 0, none⟩) n n) n (xs.map (Value.int .u16))) (hl : xs.length = n) (hm : n ≤ maxLen) (hw : ∀ x ∈ xs, 0 ≤ x ∧ x ≤ 65535) (hg : g ≠ q) : UOf w q (.slice (some ⟨g, 0, none⟩) n n) xs := by
  refine ⟨_, n, n, g, rfl, ⟨hl, Nat.le_refl _, hm, fun e => by simp at e, fun _ => ⟨0, rfl, fun j hj => ?_⟩, hw⟩, fun _ => hg⟩
  rw [Nat.zero_add, h.cellAt j (by omega)]
  simp [List.getD, show j < xs.length by omega]

/-- What else is known of the struct's cells: the version, the random, the fields that are still nil, the name. -/
structure CK (m : CH) (N : List Nat) (b : Bool) (c : Nat → Value) : Prop where
  ver : c 0 = .int .u16 m.ver
  rnd : ∀ i, i < 32 → c (1 + i) = .int .u8 (m.rnd.getD i 0)
  nil : ∀ i ∈ N, c i = .slice none 0 0
  nm : b = true → c 37 = .string m.nm
theorem CK.upd {m : CH} {N : List Nat} {b : Bool} {c : Nat → Value} (h : CK m N b c) (i : Nat) (v : Value) (hi : 33 ≤ i) (hN : ∀ j ∈ N, j ≠ i) (hn : 37 ≠ i) : CK m N b (upd c i v) :=
  ⟨(if_neg (by omega)).trans h.ver, fun j hj => (if_neg (by omega)).trans (h.rnd j hj), fun j hj => (if_neg (hN j hj)).trans (h.nil j hj), fun e => (if_neg hn).trans (h.nm e)⟩
theorem CK.name {m : CH} {N : List Nat} {b : Bool} {c : Nat → Value} (h : CK m N b c) (hN : ∀ j ∈ N, j ≠ 37) : CK m N true (Qxb6615713a.upd c 37 (.string m.nm)) :=
  ⟨(if_neg (by omega)).trans h.ver, fun j hj => (if_neg (by omega)).trans (h.rnd j hj), fun j hj => (if_neg (hN j hj)).trans (h.nil j hj), fun _ => if_pos rfl⟩
theorem CK.less {m : CH} {N : List Nat} {b : Bool} {i : Nat} {c : Nat → Value} (h : CK m (i :: N) b c) : CK m N b c := ⟨h.ver, h.rnd, fun j hj => h.nil j (List.mem_cons_of_mem _ hj), h.nm⟩

theorem Try.info95 : (Try.prog.info? 95).map (fun i => (i.zero, i.size, i.bytes)) = some (some (.agg #[.int .u16 0, .slice none 0 0]), 2, 32) := by kernel_rfl

/-- The key share x lies in the two cells of block G at i. -/
def KE (w : World) (G i : Nat) (x : Int × List Int) : Prop := w.cell? ⟨G, i * 2, none⟩ = some (.int .u16 x.1) ∧ ∃ ka kn kc kb, w.cell? ⟨G, i * 2 + 1, none⟩ = some (.slice ka kn kc) ∧ Rd w kb ka kn kc x.2 ∧ (0 < kn → G < kb)
theorem KE.fr {w w' : World} {G i : Nat} {x : Int × List Int} (h : KE w G i x) (hf : Fr [] w w') (hG : G < w.heap.size) : KE w' G i x := by
  obtain ⟨h1, ka, kn, kc, kb, h2, h3, h4⟩ := h
  have e := hf.block G hG (by simp)
  exact ⟨(World.cell?_of_block (a := ⟨G, i * 2, none⟩) e).trans h1, ka, kn, kc, kb, (World.cell?_of_block (a := ⟨G, i * 2 + 1, none⟩) e).trans h2, h3.move fun hn => hf.block kb (h3.lt hn) (by simp), h4⟩
theorem KE.drew {w : World} {G i : Nat} {x : Int × List Int} (h : KE w G i x) : KE w.drew G i x := by
  obtain ⟨h1, ka, kn, kc, kb, h2, h3, h4⟩ := h
  exact ⟨h1, ka, kn, kc, kb, h2, h3.move fun _ => rfl, h4⟩
theorem KE.set {w : World} {G i j : Nat} {x : Int × List Int} (h : KE w G i x) (hij : i ≠ j) (u v : Value) : KE ((w.setCell ⟨G, j * 2, none⟩ u).setCell ⟨G, j * 2 + 1, none⟩ v) G i x := by
  obtain ⟨h1, ka, kn, kc, kb, h2, h3, h4⟩ := h
  refine ⟨?_, ka, kn, kc, kb, ?_, h3.move fun hn => ?_, h4⟩
  · rw [World.cell?_setCell_other _ _ _ _ (by simp <;> omega), World.cell?_setCell_other _ _ _ _ (by simp <;> omega)]; exact h1
  · rw [World.cell?_setCell_other _ _ _ _ (by simp <;> omega), World.cell?_setCell_other _ _ _ _ (by simp <;> omega)]; exact h2
  · have := h4 hn
    rw [Below.heap_setCell _ _ _ _ (by show kb ≠ G; omega), Below.heap_setCell _ _ _ _ (by show kb ≠ G; omega)]
theorem KE.new {w : World} {G j : Nat} {g : Int} {ka : Option Addr} {kn kc kb : Nat} {ys : List Int} {u v : Value} (h1 : w.cell? ⟨G, j * 2, none⟩ = some u) (h2 : w.cell? ⟨G, j * 2 + 1, none⟩ = some v) (hd : Rd w kb ka kn kc ys) (hb : 0 < kn → G < kb) :
    KE ((w.setCell ⟨G, j * 2, none⟩ (.int .u16 g)).setCell ⟨G, j * 2 + 1, none⟩ (.slice ka kn kc)) G j (g, ys) := by
  refine ⟨?_, ka, kn, kc, kb, ?_, hd.move fun hn => ?_, hb⟩
  · rw [World.cell?_setCell_other _ _ _ _ (by simp)]
    exact World.cell?_setCell_same _ _ _ h1
  · refine World.cell?_setCell_same _ _ _ (u := v) ?_
    rw [World.cell?_setCell_other _ _ _ _ (by simp)]
    exact h2
  · have := hb hn
    rw [Below.heap_setCell _ _ _ _ (by show kb ≠ G; omega), Below.heap_setCell _ _ _ _ (by show kb ≠ G; omega)]

/-- A value that leads to key shares, none of it in block q. -/
def KOf (w : World) (q : Nat) (v : Value) (l : List (Int × List Int)) : Prop := (v = .slice none 0 0 ∧ l = []) ∨ ∃ G, v = .slice (some ⟨G, 0, none⟩) l.length l.length ∧ q < G ∧ G < w.heap.size ∧ l.length ≤ maxLen ∧ (∀ i, i < l.length → KE w G i (l.getD i (0, []))) ∧ ∀ x ∈ l, 0 ≤ x.1 ∧ x.1 ≤ 65535
theorem KOf.fr {w w' : World} {q : Nat} {v : Value} {l : List (Int × List Int)} (h : KOf w q v l) (hf : Fr [] w w') : KOf w' q v l := by
  rcases h with h | ⟨G, h1, h2, h3, h4, h5, h6⟩
  · exact .inl h
  · exact .inr ⟨G, h1, h2, by have := hf.size; omega, h4, fun i hi => (h5 i hi).fr hf h3, h6⟩
theorem KOf.setq {w : World} {q : Nat} {v : Value} {l : List (Int × List Int)} (h : KOf w q v l) (i : Nat) (u : Value) : KOf (w.setCell ⟨q, i, none⟩ u) q v l := by
  rcases h with h | ⟨G, h1, h2, h3, h4, h5, h6⟩
  · exact .inl h
  · refine .inr ⟨G, h1, h2, by simpa [World.setCell] using h3, h4, fun t ht => ?_, h6⟩
    obtain ⟨g1, ka, kn, kc, kb, g2, g3, g4⟩ := h5 t ht
    have e := Below.heap_setCell w ⟨q, i, none⟩ u G (by show G ≠ q; omega)
    exact ⟨(World.cell?_of_block (a := ⟨G, t * 2, none⟩) e).trans g1, ka, kn, kc, kb, (World.cell?_of_block (a := ⟨G, t * 2 + 1, none⟩) e).trans g2, g3.move fun hn => Below.heap_setCell _ _ _ _ (by show kb ≠ q; have := g4 hn; omega), g4⟩
theorem KOf.sl {w : World} {q o : Nat} {v : Value} {l : List (Int × List Int)} (h : KOf w q v l) (hc : w.cell? ⟨q, o, none⟩ = some v) : KSl w w.heap.size q o l := by
  rcases h with ⟨rfl, rfl⟩ | ⟨G, rfl, h2, h3, h4, h5, h6⟩
  · exact ⟨none, 0, 0, 0, hc, ⟨rfl, Nat.le_refl _, Nat.zero_le _, fun _ => rfl, fun h => absurd h (by omega), fun h => absurd h (by omega), fun _ h => by cases h⟩⟩
  · refine ⟨_, l.length, l.length, G, hc, ⟨rfl, Nat.le_refl _, h4, fun e => by simp at e, fun _ => h3, fun _ => ⟨0, rfl, fun j hj => ?_⟩, h6⟩⟩
    obtain ⟨g1, ka, kn, kc, kb, g2, g3, g4⟩ := h5 j hj
    rw [Nat.zero_add]
    exact ⟨g1, ka, kn, kc, kb, g2, g3, fun hn => g3.lt hn⟩

/-- Sizes that pay every make. -/
structure Small (m : CH) : Prop where
  sid : m.sid.length ≤ 1048576
  lck : m.lck.length ≤ 1048576
  cs : m.cs.length ≤ 1048576
  cmp : m.cmp.length ≤ 1048576
  sv : m.sv.length ≤ 1048576
  sg : m.sg.length ≤ 1048576
  ss : m.ss.length ≤ 1048576
  ks : m.ks.length ≤ 1048576
  ksk : ∀ x ∈ m.ks, x.2.length ≤ 1048576
  ck : m.ck.length ≤ 1048576
  cid : m.cid.length ≤ 1048576
  nm : m.nm.size ≤ 1048576
end Go.Proofs.Qxb6615713a
