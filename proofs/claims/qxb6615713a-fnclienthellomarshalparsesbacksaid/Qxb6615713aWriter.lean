/- THE WRITER: what it holds (WrAt), what a step leaves alone (WFr), the append's law in that form. -/
import Derived.Test.Qxb6615713aBytes
namespace Go.Proofs.Qxb6615713a
open Go.RowKit
set_option linter.unusedSimpArgs false
set_option linter.unusedVariables false

/-- The bytes as cells. -/
def bv (xs : List Int) : List Value := xs.map (Value.int .u8)
theorem bv_append (xs ys : List Int) : bv (xs ++ ys) = bv xs ++ bv ys := List.map_append
theorem bv_length (xs : List Int) : (bv xs).length = xs.length := List.length_map ..
theorem bv_one (xs : List Int) : ∀ u ∈ bv xs, u.oneCell' = true := ints_oneCell .u8 xs

/-- v is a slice value that owns the bytes xs. -/
def Own (w : World) (v : Value) (xs : List Int) : Prop := w.ownsRow 0 5 1 v xs.length (bv xs)

theorem Own.form {w : World} {v : Value} {xs : List Int} (h : Own w v xs) : ∃ ao c, v = .slice ao xs.length c := by
  rcases h.2 with ⟨rfl, h0⟩ | ⟨g, cap, cur, rfl, _⟩
  · exact ⟨none, 0, by rw [h0]⟩
  · exact ⟨_, _, rfl⟩

theorem Own.shape {w : World} {v : Value} {xs : List Int} (h : Own w v xs) : ∃ ao l c, v = .slice ao l c := by
  obtain ⟨ao, c, hv⟩ := h.form
  exact ⟨ao, _, c, hv⟩

theorem Own.nil (w : World) : Own w (.slice none 0 0) [] := World.ownsRow_nil _ _ _ _
theorem Own.lt {w : World} {v : Value} {xs : List Int} (h : Own w v xs) {k : Nat} (hk : v.ownBlock = some k) : k < w.heap.size := (World.ownsRow.lt h k hk).2
theorem Own.move {w w' : World} {v : Value} {xs : List Int} (h : Own w v xs) (hb : ∀ k, v.ownBlock = some k → w'.heap[k]? = w.heap[k]?) : Own w' v xs := by
  refine ⟨h.1, ?_⟩
  rcases h.2 with h0 | ⟨g, cap, cur, rfl, h1, hg, h2⟩
  · exact .inl h0
  · exact .inr ⟨g, cap, cur, rfl, h1, (hb g rfl).trans hg, h2⟩
theorem Own.alloc {w : World} {v : Value} {xs : List Int} (h : Own w v xs) (o : Obj) : Own (w.alloc o) v xs := World.ownsRow.alloc h o

/-- It reads as those bytes. -/
theorem Own.rd {w : World} {v : Value} {xs : List Int} (h : Own w v xs) (hw : ∀ x ∈ xs, 0 ≤ x ∧ x ≤ 255) : ∃ b ao c, v = .slice ao xs.length c ∧ Rd w b ao xs.length c xs ∧ (0 < xs.length → v.ownBlock = some b) := by
  rcases h.2 with ⟨rfl, h0⟩ | ⟨g, cap, cur, rfl, h1, hg, hnc, hcm, hcs, htake⟩
  · refine ⟨0, none, 0, by rw [h0], ?_, fun h => by omega⟩
    obtain rfl : xs = [] := List.length_eq_zero_iff.1 h0
    exact Rd.empty _ _
  · refine ⟨g, some ⟨g, 0, none⟩, cap, rfl, ⟨rfl, hnc, hcm, fun e => by simp at e, fun _ => ⟨0, rfl, fun j hj => ?_⟩, hw⟩, fun _ => rfl⟩
    have := World.ownsRow.cellAt h j (by omega)
    rw [Nat.zero_add, this]
    simp [bv, List.getD, hj]

theorem run_append_bytes (w : World) (ty : TypeId) (v : Value) (xs : List Int) (hown : Own w v xs) (b : Nat) (ao : Option Addr) (m c : Nat) (ys : List Int) (hd : Rd w b ao m c ys) (hsz : xs.length + ys.length ≤ 1099511627776) :
    ∃ v' w', (Builtin.append_ #[22, 22] ty #[v, .slice ao m c]).run Try.prog w = .ok v' w' ∧ Own w' v' (xs ++ ys) ∧ w.grownBy w' v.ownBlock ∧ (v'.ownBlock = v.ownBlock ∨ v'.ownBlock = some w.heap.size) := by
  obtain ⟨i0, hi, hz0, hz1, hz2⟩ := info_parts Try.info5
  have hlen := hd.len
  cases ao with
  | none =>
    have h0 := hd.nil rfl
    have hcap := hd.cap
    obtain rfl : m = 0 := by omega
    subst h0
    obtain rfl : ys = [] := List.length_eq_zero_iff.1 hlen
    refine ⟨v, w, run_append_owned_none (P := Try.prog) w 0 22 ty 5 i0 1 Try.underlying22 hi v _ _ hown, by simpa using hown, World.grownBy.refl _ _, .inl rfl⟩
  | some ad =>
    have hnews : ∀ j u, (bv ys)[j]? = some u → w.cell? (ad.add j) = some u := by
      intro j u hu
      have hj : j < ys.length := by have := (List.getElem?_eq_some_iff.1 hu).1; simpa [bv] using this
      obtain ⟨o, ho, hc⟩ := hd.cell (by omega)
      obtain rfl : ad = ⟨b, o, none⟩ := by simpa using ho
      rw [Addr.add_lit, hc j (by omega)]
      rw [← hu]
      simp [bv, List.getD, hj]
    have hl : (bv ys).length = m * 1 := by rw [bv_length, hlen, Nat.mul_one]
    obtain ⟨v', w', hrun, ho', hg', _⟩ := run_append_own (P := Try.prog) w 0 22 ty 5 i0 (.int .u8 0) 1 1 Try.underlying22 hi hz0 hz1 hz2 rfl (by decide) v xs.length (bv xs) hown ad m c (bv ys) hl hnews (bv_one ys)
      (by unfold maxLen; omega) (by omega) (Nat.zero_le _)
    refine ⟨v', w', hrun, ?_, hg', ?_⟩
    · unfold Own
      rw [bv_append, List.length_append, hlen]
      exact ho'
    · rcases hown.2 with ⟨rfl, h0⟩ | ⟨g, cap, cur, rfl, h1, hg, hnc, hcm, hcs, htake⟩
      · by_cases hm : m = 0
        · subst hm
          left
          have hr := hrun
          simp [Builtin.append_, run_underlying Try.underlying22, sizeOf, typeInfo, hi, Builtin.lenOf, Builtin.firstCells, loadCells, loadCellsFrom] at hr
          rw [← hr.1]
        · right
          have hr := run_append_nil (P := Try.prog) w 22 ty 5 i0 (.int .u8 0) Try.underlying22 hi hz0 ad m c (bv ys) (by rw [hl, hz1]) hnews (by omega) (by omega) (by rw [hz2]; omega)
          rw [hr] at hrun
          simp only [Result.ok.injEq] at hrun
          rw [← hrun.1]; rfl
      · by_cases hroom : xs.length + m ≤ cap
        · left
          obtain ⟨w2, hr, _, _⟩ := run_append_fits (P := Try.prog) w 0 22 ty 5 i0 1 Try.underlying22 hi hz1 g xs.length cap (bv xs) hown ad m c (bv ys) hl hnews (bv_one ys) hroom
          rw [hr] at hrun
          simp only [Result.ok.injEq] at hrun
          rw [← hrun.1]; rfl
        · right
          have holds : ∀ j u, (bv xs)[j]? = some u → w.cell? ((⟨g, 0, none⟩ : Addr).add j) = some u := World.ownsRow.cells hown (g := g) rfl
          have hr := run_append_grow (P := Try.prog) w 22 ty 5 i0 (.int .u8 0) Try.underlying22 hi hz0 ⟨g, 0, none⟩ xs.length cap (bv xs) (by rw [hz1]; exact hown.1) holds ad m c (bv ys) (by rw [hl, hz1]) hnews (by omega) (by omega) (growslice_fits (by omega) (by rw [hz2]; omega))
          rw [hr] at hrun
          simp only [Result.ok.injEq] at hrun
          rw [← hrun.1]; rfl

/-- THE APPEND's LAW FOR THE WALK. -/
theorem wpList_append_bytes {w : World} {ops : Array Oper} {rest : List Oper} {o : Oper} {a : Act} {Q : Exit → Act → World → Prop} (hgd : o.guard = none) (s x : Operand)
    (ho : o.op = .call { callee := .builtin .append, args := #[s, x], argTypes := #[22, 22] })
    (v : Value) (xs : List Int) (hs : a.eval s = v) (hown : Own w v xs) (b : Nat) (ao : Option Addr) (m c : Nat) (ys : List Int) (hx : a.eval x = .slice ao m c) (hd : Rd w b ao m c ys) (hsz : xs.length + ys.length ≤ 1099511627776)
    (h : ∀ v' w', Own w' v' (xs ++ ys) → w.grownBy w' v.ownBlock → (v'.ownBlock = v.ownBlock ∨ v'.ownBlock = some w.heap.size) → wpList Try.prog ops Q rest (a.put o.dst v') w') : wpList Try.prog ops Q (o :: rest) a w := by
  refine wpList_plain hgd fun K hK => ?_
  obtain ⟨v', w', hr, h2, h3, h4⟩ := run_append_bytes w o.type v xs hown b ao m c ys hd hsz
  unfold Oper.wp execOp
  simp only [ho, resolve, invoke, builtin, Sem.run_bind, Sem.run_pure, Result.andThen_ok, List.map_toArray, List.map_cons, List.map_nil, hs, hx, hr]
  exact hK _ _ (h v' w' h2 h3 h4)

/-- A writer in block p: its buffer is v, which owns the bytes xs. -/
structure WrAt (w : World) (p : Nat) (v : Value) (xs : List Int) : Prop where
  blk : w.heap[p]? = some (.cells #[v] 81 (0, 0))
  own : Own w v xs
  wf : ∀ x ∈ xs, 0 ≤ x ∧ x ≤ 255

theorem WrAt.ne {w : World} {p : Nat} {v : Value} {xs : List Int} (h : WrAt w p v xs) : v.ownBlock ≠ some p := by
  intro e
  rcases h.own.2 with ⟨rfl, _⟩ | ⟨g, cap, cur, rfl, _, hg, _⟩
  · simp [Value.ownBlock] at e
  · simp [Value.ownBlock] at e
    subst e
    rw [h.blk] at hg
    simp at hg

/-- What the writer's steps leave alone: every old block but the writer's own and its buffer's. -/
structure WFr (p : Nat) (v v' : Value) (w w' : World) : Prop where
  os : w'.os = w.os
  tape : w'.tape = w.tape
  output : w'.output = w.output
  size : w.heap.size ≤ w'.heap.size
  block : ∀ k, k < w.heap.size → k ≠ p → v.ownBlock ≠ some k → w'.heap[k]? = w.heap[k]?
  own : ∀ g, v'.ownBlock = some g → v.ownBlock = some g ∨ w.heap.size ≤ g

theorem WFr.refl (p : Nat) (v : Value) (w : World) : WFr p v v w w := ⟨rfl, rfl, rfl, Nat.le_refl _, fun _ _ _ _ => rfl, fun _ h => .inl h⟩
theorem WFr.trans {p : Nat} {v v1 v2 : Value} {w w1 w2 : World} (h : WFr p v v1 w w1) (k : WFr p v1 v2 w1 w2) : WFr p v v2 w w2 := by
  refine ⟨k.os.trans h.os, k.tape.trans h.tape, k.output.trans h.output, Nat.le_trans h.size k.size, fun i hi hp hv => ?_, fun g hg => ?_⟩
  · refine (k.block i (Nat.lt_of_lt_of_le hi h.size) hp (fun e => ?_)).trans (h.block i hi hp hv)
    rcases h.own i e with h' | h'
    · exact hv h'
    · omega
  · rcases k.own g hg with h' | h'
    · exact h.own g h'
    · exact .inr (Nat.le_trans h.size h')
theorem WFr.alloc (p : Nat) (v : Value) (w : World) (o : Obj) : WFr p v v w (w.alloc o) :=
  ⟨rfl, rfl, rfl, by simp, fun k hk _ _ => Below.heap_alloc _ _ _ hk, fun _ h => .inl h⟩
theorem WFr.drew {p : Nat} {v v' : Value} {w w' : World} (h : WFr p v v' w w') : WFr p v v' w w'.drew := ⟨h.os, h.tape, h.output, h.size, h.block, h.own⟩
theorem WrAt.alloc {w : World} {p : Nat} {v : Value} {xs : List Int} (h : WrAt w p v xs) (o : Obj) : WrAt (w.alloc o) p v xs :=
  ⟨(Below.heap_alloc _ _ _ (lt_of_block h.blk)).trans h.blk, h.own.alloc o, h.wf⟩
theorem WrAt.drew {w : World} {p : Nat} {v : Value} {xs : List Int} (h : WrAt w p v xs) : WrAt w.drew p v xs := ⟨h.blk, h.own, h.wf⟩
theorem WrAt.lt {w : World} {p : Nat} {v : Value} {xs : List Int} (h : WrAt w p v xs) : p < w.heap.size := lt_of_block h.blk

theorem WrAt.appended {w w1 : World} {p : Nat} {v v1 : Value} {xs ys : List Int} (h : WrAt w p v xs) (ho : Own w1 v1 (xs ++ ys)) (hg : w.grownBy w1 v.ownBlock) (hv : v1.ownBlock = v.ownBlock ∨ v1.ownBlock = some w.heap.size) (hy : ∀ x ∈ ys, 0 ≤ x ∧ x ≤ 255) :
    WrAt (w1.setCell ⟨p, 0, none⟩ v1) p v1 (xs ++ ys) ∧ WFr p v v1 w (w1.setCell ⟨p, 0, none⟩ v1) := by
  have hlt := h.lt
  have hb1 : w1.heap[p]? = some (.cells #[v] 81 (0, 0)) := (hg.block p hlt (fun e => h.ne e.symm)).trans h.blk
  have hne : v1.ownBlock ≠ some p := by
    rcases hv with e | e
    · rw [e]; exact h.ne
    · rw [e]; intro e2; simp at e2; omega
  refine ⟨⟨one_setCell hb1, ho.move fun k hk => Below.heap_setCell _ _ _ _ (fun e => hne (by rw [hk, e])), fun x hx => ?_⟩, ⟨hg.os, hg.tape, hg.output, by simpa [World.setCell] using hg.size, fun k hk hp hvk => ?_, fun g hg' => ?_⟩⟩
  · rcases List.mem_append.1 hx with h' | h'
    · exact h.wf x h'
    · exact hy x h'
  · exact (Below.heap_setCell _ _ _ _ (by simpa using hp)).trans (hg.block k hk (fun e => hvk e.symm))
  · rcases hv with e | e
    · left; rw [← e]; exact hg'
    · right; rw [e] at hg'; simp at hg'; omega

theorem WFr.below {p : Nat} {v v' : Value} {w w' : World} {B : Nat} (h : WFr p v v' w w') (hB : B ≤ w.heap.size) (hp : B ≤ p) (hv : ∀ g, v.ownBlock = some g → B ≤ g) : Below B w w' :=
  ⟨h.os, h.tape, h.output, h.size, fun k hk => h.block k (by omega) (by omega) (fun e => by have := hv k e; omega)⟩

/-- Another block reads as it did. -/
theorem WFr.rd {p : Nat} {v v' : Value} {w w' : World} (h : WFr p v v' w w') {b : Nat} {a : Option Addr} {n c : Nat} {xs : List Int} (hd : Rd w b a n c xs) (hb : 0 < n → b ≠ p ∧ v.ownBlock ≠ some b) : Rd w' b a n c xs :=
  hd.move fun hn => h.block b (hd.lt hn) (hb hn).1 (hb hn).2

set_option maxHeartbeats 400000 in
theorem wbytes (p b : Nat) (v : Value) (xs ys : List Int) (a : Option Addr) (n c : Nat) (w : World) (h : WrAt w p v xs) (hd : Rd w b a n c ys) (hsz : xs.length + ys.length ≤ 1099511627776) :
    Calls Try.prog 47 #[.pointer (some ⟨p, 0, none⟩), .slice a n c] w fun e w' => e = .returned (.tuple #[]) ∧ ∃ v', WrAt w' p v' (xs ++ ys) ∧ WFr p v v' w w' := by
  obtain ⟨ao, l, cp, hv⟩ := h.own.shape
  subst hv
  have c0 := cell_of_one h.blk
  go_enter Try.func47, Try.ntmps47
  go_wp2_with (at_builtin; refine wpList_append_bytes rfl _ _ rfl _ xs rfl h.own b a n c ys rfl hd hsz ?_)
  intro v1 w1 ho hg hv
  have R := h.appended ho hg hv hd.wf
  obtain ⟨ao1, l1, cp1, hv1⟩ := ho.shape
  subst hv1
  have hb1 : w1.heap[p]? = _ := (hg.block p h.lt (fun e => h.ne e.symm)).trans h.blk
  have c1 := cell_of_one hb1
  have f1 := free_of_one hb1
  have HR : Hid _ := R
  clear R hb1 hg ho
  go_wp2
  go_end0
  exact ⟨rfl, _, HR.out.1, HR.out.2⟩

theorem byte_wf (x : Int) : 0 ≤ x % 256 ∧ x % 256 ≤ 255 := by omega

theorem rd_one (w : World) (x : Int) (h : 0 ≤ x ∧ x ≤ 255) : Rd (w.alloc (.cells #[.int .u8 x] 5)) w.heap.size (some ⟨w.heap.size, 0, none⟩) 1 1 [x] := by
  refine ⟨rfl, Nat.le_refl _, by decide, fun e => by simp at e, fun _ => ⟨0, rfl, fun j hj => ?_⟩, fun y hy => by simp at hy; subst hy; exact h⟩
  obtain rfl : j = 0 := by omega
  exact cell_of_one (t := 5) (heap_alloc_new w _)

theorem rd_two (w : World) (x y : Int) (h : 0 ≤ x ∧ x ≤ 255) (k : 0 ≤ y ∧ y ≤ 255) : Rd (w.alloc (.cells #[.int .u8 x, .int .u8 y] 5)) w.heap.size (some ⟨w.heap.size, 0, none⟩) 2 2 [x, y] := by
  refine ⟨rfl, Nat.le_refl _, by decide, fun e => by simp at e, fun _ => ⟨0, rfl, fun j hj => ?_⟩, fun z hz => by simp at hz; rcases hz with rfl | rfl <;> assumption⟩
  match j, hj with
  | 0, _ => exact two_cell0 (t := 5) (heap_alloc_new w _)
  | 1, _ => exact two_cell1 (t := 5) (heap_alloc_new w _)

set_option maxHeartbeats 400000 in
theorem wu8 (p : Nat) (v : Value) (xs : List Int) (x : Int) (w : World) (h : WrAt w p v xs) (hx : 0 ≤ x ∧ x ≤ 255) (hsz : xs.length ≤ 1099511627775) :
    Calls Try.prog 56 #[.pointer (some ⟨p, 0, none⟩), .int .u8 x] w fun e w' => e = .returned (.tuple #[]) ∧ ∃ v', WrAt w' p v' (xs ++ [x]) ∧ WFr p v v' w w' := by
  obtain ⟨ao, l, cp, hv⟩ := h.own.shape
  subst hv
  have c0 := cell_of_one h.blk
  have h2 := h.alloc (.cells #[.int .u8 x] 5)
  have hd := rd_one w x hx
  go_enter Try.func56, Try.ntmps56
  go_wp2_with (at_builtin; refine wpList_append_bytes rfl _ _ rfl _ xs rfl h2.own w.heap.size (some ⟨w.heap.size, 0, none⟩) 1 1 [x] rfl hd (by simp; omega) ?_)
  intro v1 w1 ho hg hv
  have R := h2.appended ho hg (by simpa using hv) hd.wf
  obtain ⟨ao1, l1, cp1, hv1⟩ := ho.shape
  subst hv1
  have hb1 : w1.heap[p]? = _ := (hg.block p h2.lt (fun e => h2.ne e.symm)).trans h2.blk
  have c1 := cell_of_one hb1
  have f1 := free_of_one hb1
  have HR : Hid _ := R
  clear R hb1 hg ho
  go_wp2
  go_end0
  exact ⟨rfl, _, HR.out.1, (WFr.alloc _ _ _ _).trans HR.out.2⟩

set_option maxHeartbeats 400000 in
theorem wu16 (p : Nat) (v : Value) (xs : List Int) (x : Int) (w : World) (h : WrAt w p v xs) (hx : 0 ≤ x ∧ x ≤ 65535) (hsz : xs.length ≤ 1099511627774) :
    Calls Try.prog 49 #[.pointer (some ⟨p, 0, none⟩), .int .u16 x] w fun e w' => e = .returned (.tuple #[]) ∧ ∃ v', WrAt w' p v' (xs ++ [x / 256, x % 256]) ∧ WFr p v v' w w' := by
  obtain ⟨ao, l, cp, hv⟩ := h.own.shape
  subst hv
  have c0 := cell_of_one h.blk
  have h2 := h.alloc (.cells #[.int .u8 (x / 256), .int .u8 (x % 256)] 5)
  have hd := rd_two w (x / 256) (x % 256) (by omega) (by omega)
  go_enter Try.func49, Try.ntmps49
  go_wp2_with (at_builtin; refine wpList_append_bytes rfl _ _ rfl _ xs rfl h2.own w.heap.size (some ⟨w.heap.size, 0, none⟩) 2 2 [x / 256, x % 256] rfl hd (by simp; omega) ?_)
  intro v1 w1 ho hg hv
  have R := h2.appended ho hg (by simpa using hv) hd.wf
  obtain ⟨ao1, l1, cp1, hv1⟩ := ho.shape
  subst hv1
  have hb1 : w1.heap[p]? = _ := (hg.block p h2.lt (fun e => h2.ne e.symm)).trans h2.blk
  have c1 := cell_of_one hb1
  have f1 := free_of_one hb1
  have HR : Hid _ := R
  clear R hb1 hg ho
  go_wp2
  go_end0
  exact ⟨rfl, _, HR.out.1, (WFr.alloc _ _ _ _).trans HR.out.2⟩

end Go.Proofs.Qxb6615713a
