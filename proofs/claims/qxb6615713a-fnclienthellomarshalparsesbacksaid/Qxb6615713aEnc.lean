/- THE PLAIN ENCODING of a ClientHello, and what its struct reads as in memory. No walk here. -/
import Derived.Test.Qxb6615713aVector
namespace Go.Proofs.Qxb6615713a
open Go.RowKit
set_option linter.unusedSimpArgs false
set_option linter.unusedVariables false

/-- A ClientHello as plain data. -/
structure CH where
  ver : Int
  rnd : List Int
  sid : List Int
  lck : List Int
  cs : List Int
  cmp : List Int
  nm : ByteArray
  sv : List Int
  sg : List Int
  ss : List Int
  ks : List (Int × List Int)
  ck : List Int
  cid : List Int
  has : Bool

def u16s (l : List Int) : List Int := l.flatMap fun x => [x / 256, x % 256]
def vec (k : Nat) (ys : List Int) : List Int := be k ys.length ++ ys
def ext (t : Int) (ys : List Int) : List Int := [t / 256, t % 256] ++ vec 2 ys
def nmB (s : ByteArray) : List Int := s.data.toList.map fun b => (b.toNat : Int)
def ksB (l : List (Int × List Int)) : List Int := l.flatMap fun x => [x.1 / 256, x.1 % 256] ++ vec 2 x.2
def sniB (m : CH) : List Int := vec 2 ([0] ++ vec 2 (nmB m.nm))
def extsB (m : CH) : List Int :=
  (if m.nm.size = 0 then [] else ext 0 (sniB m)) ++ ext 43 (vec 1 (u16s m.sv)) ++ ext 10 (vec 2 (u16s m.sg)) ++ ext 13 (vec 2 (u16s m.ss)) ++ ext 51 (vec 2 (ksB m.ks)) ++
    (if m.ck.length = 0 then [] else ext 44 (vec 2 m.ck)) ++ (if m.has then ext 54 (vec 1 m.cid) else [])
def headB (m : CH) : List Int := [m.ver / 256, m.ver % 256] ++ m.rnd ++ vec 1 m.sid ++ vec 1 m.lck ++ vec 2 (u16s m.cs) ++ vec 1 m.cmp
def marshalB (m : CH) : List Int := headB m ++ vec 2 (extsB m)

theorem vec_length (k : Nat) (ys : List Int) : (vec k ys).length = k + ys.length := by simp [vec, be_length]
theorem ext_length (t : Int) (ys : List Int) : (ext t ys).length = 4 + ys.length := by simp [ext, vec_length]; omega
theorem u16s_length (l : List Int) : (u16s l).length = 2 * l.length := by
  induction l with
  | nil => rfl
  | cons x l ih => simp only [u16s, List.flatMap_cons, List.length_append, List.length_cons, List.length_nil] at ih ⊢; omega
theorem u16s_snoc (l : List Int) (x : Int) : u16s (l ++ [x]) = u16s l ++ [x / 256, x % 256] := by simp [u16s]
theorem nmB_length (s : ByteArray) : (nmB s).length = s.size := by
  unfold nmB
  rw [List.length_map, Array.length_toList]
  rfl
theorem nmB_wf (s : ByteArray) : ∀ x ∈ nmB s, 0 ≤ x ∧ x ≤ 255 := by
  intro x hx
  obtain ⟨b, _, rfl⟩ := List.mem_map.1 hx
  have := b.toNat_lt
  omega
theorem ksB_snoc (l : List (Int × List Int)) (x : Int × List Int) : ksB (l ++ [x]) = ksB l ++ ([x.1 / 256, x.1 % 256] ++ vec 2 x.2) := by simp [ksB]

/-- The sum of the key shares' own bytes. -/
def ksLen (l : List (Int × List Int)) : Nat := (l.map fun x => 4 + x.2.length).sum
theorem ksLen_snoc (l : List (Int × List Int)) (x : Int × List Int) : ksLen (l ++ [x]) = ksLen l + (4 + x.2.length) := by simp [ksLen]
theorem ksB_length (l : List (Int × List Int)) : (ksB l).length = ksLen l := by
  induction l with
  | nil => rfl
  | cons x l ih =>
    simp only [ksB, List.flatMap_cons, List.length_append, List.length_cons, List.length_nil, vec_length] at ih ⊢
    simp only [ksLen, List.map_cons, List.sum_cons] at ih ⊢
    omega

/-! ### What lies in memory -/

/-- The slice (a, n, c) reads as the numbers xs of kind u16. -/
structure Rd16 (w : World) (b : Nat) (a : Option Addr) (n c : Nat) (xs : List Int) : Prop where
  len : xs.length = n
  cap : n ≤ c
  max : c ≤ maxLen
  nil : a = none → c = 0
  cell : 0 < n → ∃ o, a = some ⟨b, o, none⟩ ∧ ∀ j, j < n → w.cell? ⟨b, o + j, none⟩ = some (.int .u16 (xs.getD j 0))
  wf : ∀ x ∈ xs, 0 ≤ x ∧ x ≤ 65535

theorem Rd16.lt {w : World} {b : Nat} {a : Option Addr} {n c : Nat} {xs : List Int} (h : Rd16 w b a n c xs) (hn : 0 < n) : b < w.heap.size := by
  obtain ⟨o, _, hc⟩ := h.cell hn
  exact World.block_lt_of_cell? w _ (hc 0 hn)
theorem Rd16.move {w w' : World} {b : Nat} {a : Option Addr} {n c : Nat} {xs : List Int} (h : Rd16 w b a n c xs) (hb : 0 < n → w'.heap[b]? = w.heap[b]?) : Rd16 w' b a n c xs := by
  refine ⟨h.len, h.cap, h.max, h.nil, fun hn => ?_, h.wf⟩
  obtain ⟨o, rfl, hc⟩ := h.cell hn
  exact ⟨o, rfl, fun j hj => (World.cell?_of_block (w := w) (hb hn)).trans (hc j hj)⟩

/-- The slice (a, n, c) of key shares: a group and a slice of bytes each. -/
structure RdKs (w : World) (p b : Nat) (a : Option Addr) (n c : Nat) (l : List (Int × List Int)) : Prop where
  len : l.length = n
  cap : n ≤ c
  max : c ≤ maxLen
  nil : a = none → c = 0
  lt : 0 < n → b < p
  cell : 0 < n → ∃ o, a = some ⟨b, o, none⟩ ∧ ∀ j, j < n → w.cell? ⟨b, o + j * 2, none⟩ = some (.int .u16 ((l.getD j (0, [])).1)) ∧
    ∃ ka kn kc kb, w.cell? ⟨b, o + j * 2 + 1, none⟩ = some (.slice ka kn kc) ∧ Rd w kb ka kn kc ((l.getD j (0, [])).2) ∧ (0 < kn → kb < p)
  wf : ∀ x ∈ l, 0 ≤ x.1 ∧ x.1 ≤ 65535

/-- A slice of bytes, of u16s, of key shares in the cell at ⟨q, o⟩, all below block p. -/
def BSl (w : World) (p q o : Nat) (xs : List Int) : Prop := ∃ a n c b, w.cell? ⟨q, o, none⟩ = some (.slice a n c) ∧ Rd w b a n c xs ∧ (0 < n → b < p)
def USl (w : World) (p q o : Nat) (xs : List Int) : Prop := ∃ a n c b, w.cell? ⟨q, o, none⟩ = some (.slice a n c) ∧ Rd16 w b a n c xs ∧ (0 < n → b < p)
def KSl (w : World) (p q o : Nat) (l : List (Int × List Int)) : Prop := ∃ a n c b, w.cell? ⟨q, o, none⟩ = some (.slice a n c) ∧ RdKs w p b a n c l

/-- THE STRUCT at block q reads as m; all that it leads to lies below block p. -/
structure HelloAt (w : World) (p q : Nat) (m : CH) : Prop where
  qp : q < p
  ver : w.cell? ⟨q, 0, none⟩ = some (.int .u16 m.ver)
  verB : 0 ≤ m.ver ∧ m.ver ≤ 65535
  rnd : ∀ i, i < 32 → w.cell? ⟨q, 1 + i, none⟩ = some (.int .u8 (m.rnd.getD i 0))
  rndL : m.rnd.length = 32
  rndB : ∀ x ∈ m.rnd, 0 ≤ x ∧ x ≤ 255
  sid : BSl w p q 33 m.sid
  lck : BSl w p q 34 m.lck
  cs : USl w p q 35 m.cs
  cmp : BSl w p q 36 m.cmp
  nm : w.cell? ⟨q, 37, none⟩ = some (.string m.nm)
  nmL : m.nm.size ≤ maxLen
  sv : USl w p q 38 m.sv
  sg : USl w p q 39 m.sg
  ss : USl w p q 40 m.ss
  ks : KSl w p q 41 m.ks
  ck : BSl w p q 42 m.ck
  cid : BSl w p q 43 m.cid
  has : w.cell? ⟨q, 44, none⟩ = some (.bool m.has)

theorem BSl.below {w w' : World} {p q o : Nat} {xs : List Int} (h : BSl w p q o xs) (hb : Below p w w') (hq : q < p) : BSl w' p q o xs := by
  obtain ⟨a, n, c, b, h1, h2, h3⟩ := h
  exact ⟨a, n, c, b, (hb.cell (p := ⟨q, o, none⟩) hq).trans h1, h2.move fun hn => hb.block b (h3 hn), h3⟩
theorem USl.below {w w' : World} {p q o : Nat} {xs : List Int} (h : USl w p q o xs) (hb : Below p w w') (hq : q < p) : USl w' p q o xs := by
  obtain ⟨a, n, c, b, h1, h2, h3⟩ := h
  exact ⟨a, n, c, b, (hb.cell (p := ⟨q, o, none⟩) hq).trans h1, h2.move fun hn => hb.block b (h3 hn), h3⟩
theorem RdKs.below {w w' : World} {p b : Nat} {a : Option Addr} {n c : Nat} {l : List (Int × List Int)} (h : RdKs w p b a n c l) (hb : Below p w w') : RdKs w' p b a n c l := by
  refine ⟨h.len, h.cap, h.max, h.nil, h.lt, fun hn => ?_, h.wf⟩
  obtain ⟨o, rfl, hc⟩ := h.cell hn
  refine ⟨o, rfl, fun j hj => ?_⟩
  obtain ⟨h1, ka, kn, kc, kb, h2, h3, h4⟩ := hc j hj
  exact ⟨(hb.cell (p := ⟨b, _, none⟩) (h.lt hn)).trans h1, ka, kn, kc, kb, (hb.cell (p := ⟨b, _, none⟩) (h.lt hn)).trans h2, h3.move fun hk => hb.block kb (h4 hk), h4⟩
theorem KSl.below {w w' : World} {p q o : Nat} {l : List (Int × List Int)} (h : KSl w p q o l) (hb : Below p w w') (hq : q < p) : KSl w' p q o l := by
  obtain ⟨a, n, c, b, h1, h2⟩ := h
  exact ⟨a, n, c, b, (hb.cell (p := ⟨q, o, none⟩) hq).trans h1, h2.below hb⟩
theorem HelloAt.below {w w' : World} {p q : Nat} {m : CH} (h : HelloAt w p q m) (hb : Below p w w') : HelloAt w' p q m :=
  ⟨h.qp, (hb.cell (p := ⟨q, 0, none⟩) h.qp).trans h.ver, h.verB, fun i hi => (hb.cell (p := ⟨q, 1 + i, none⟩) h.qp).trans (h.rnd i hi), h.rndL, h.rndB, h.sid.below hb h.qp, h.lck.below hb h.qp, h.cs.below hb h.qp, h.cmp.below hb h.qp,
    (hb.cell (p := ⟨q, 37, none⟩) h.qp).trans h.nm, h.nmL, h.sv.below hb h.qp, h.sg.below hb h.qp, h.ss.below hb h.qp, h.ks.below hb h.qp, h.ck.below hb h.qp, h.cid.below hb h.qp, (hb.cell (p := ⟨q, 44, none⟩) h.qp).trans h.has⟩

end Go.Proofs.Qxb6615713a
