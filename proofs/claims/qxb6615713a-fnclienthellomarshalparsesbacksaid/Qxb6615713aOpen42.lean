/- A ClientHello handed over by value, OPENED: its 45 cells read as a plain CH. -/
import Derived.Test.Qxb6615713aHelloMore
import Derived.Test.Qxb6615713aArgs
import Derived.Deep.SlicePairs
namespace Go.Proofs.Qxb6615713a
open Go.RowKit Go.WideShapes Go.ChangeShapes
set_option linter.unusedSimpArgs false
set_option linter.unusedVariables false

section
variable {H : Type} {enc : TypeId × Value → H} {w : World}

theorem one_at {cs : List Value} {o : Nat} {v : Value} (h : (cs.drop o).take 1 = [v]) : cs[o]? = some v := by
  have : ((cs.drop o).take 1)[0]? = some v := by rw [h]; rfl
  simpa [List.getElem?_take, List.getElem?_drop] using this

theorem isRow16_rd {w : World} {a : Option Addr} {len cap : Nat} {zs : List Int} (h : IsRow .u16 w a len cap zs) : ∃ b, Rd16 w b a len cap (zs.take len) ∧ (0 < len → b < w.heap.size) := by
  rcases h with ⟨rfl, rfl, rfl, rfl⟩ | ⟨x, rfl, hlc, hm, hz, hcell, hw⟩
  · exact ⟨0, ⟨rfl, Nat.le_refl _, by decide, fun _ => rfl, fun h => absurd h (by omega), fun y hy => by cases hy⟩, fun h => absurd h (by omega)⟩
  · by_cases h0 : 0 < zs.length
    · obtain ⟨b, o, rfl, hc⟩ := ints_at hcell h0
      have R : Rd16 w b (some ⟨b, o, none⟩) len cap (zs.take len) := by
        refine ⟨by simp; omega, hlc, hm, fun e => by simp at e, fun _ => ⟨o, rfl, fun j hj => ?_⟩, fun y hy => bounds_u16 (hw y (List.mem_of_mem_take hy))⟩
        rw [hc j (by omega)]
        simp [List.getD, List.getElem?_take, hj]
      exact ⟨b, R, fun hn => R.lt hn⟩
    · refine ⟨0, ⟨by simp; omega, hlc, hm, fun e => by simp at e, fun h => absurd h (by omega), fun y hy => bounds_u16 (hw y (List.mem_of_mem_take hy))⟩, fun h => absurd h (by omega)⟩

theorem opB {n : Nat} {cs : List Value} {y : DataW H × List MemPlace} (h : DataW.trod enc Try.prog w 0 (fun _ => true) true n 22 cs = some y) :
    ∃ a l c b xs, cs = [.slice a l c] ∧ Rd w b a l c xs ∧ (0 < l → b < w.heap.size) := by
  rcases open_ints Try.underlying22 Try.underlying5 (by kernel_rfl) h with ⟨rfl, _⟩ | ⟨x, l, c, zs, rfl, _, hl, hm, hz, _, hcell, hwz⟩
  · exact ⟨none, 0, 0, 0, [], rfl, Rd.empty _ _, fun h => absurd h (by omega)⟩
  · obtain ⟨b, R, hb⟩ := IsRow.rd (a := some x) (.inr ⟨_, rfl, hl, hm, by simpa using hz, hcell, hwz⟩)
    exact ⟨_, _, _, b, _, rfl, R, hb⟩
theorem opU {n : Nat} {cs : List Value} {y : DataW H × List MemPlace} (h : DataW.trod enc Try.prog w 0 (fun _ => true) true n 39 cs = some y) :
    ∃ a l c b xs, cs = [.slice a l c] ∧ Rd16 w b a l c xs ∧ (0 < l → b < w.heap.size) := by
  rcases open_ints Try.underlying39 Try.underlying37 (by kernel_rfl) h with ⟨rfl, _⟩ | ⟨x, l, c, zs, rfl, _, hl, hm, hz, _, hcell, hwz⟩
  · obtain ⟨b, R, hb⟩ := isRow16_rd (w := w) (.inl ⟨rfl, rfl, rfl, rfl⟩)
    exact ⟨none, 0, 0, b, _, rfl, R, hb⟩
  · obtain ⟨b, R, hb⟩ := isRow16_rd (a := some x) (.inr ⟨_, rfl, hl, hm, by simpa using hz, hcell, hwz⟩)
    exact ⟨_, _, _, b, _, rfl, R, hb⟩

theorem opK {n : Nat} {cs : List Value} {y : DataW H × List MemPlace} (h : DataW.trod enc Try.prog w 0 (fun _ => true) true n 40 cs = some y) :
    ∃ a l c b xs, cs = [.slice a l c] ∧ RdKs w w.heap.size b a l c xs := by
  rcases Deep.open_slice_pairs Try.underlying40 Try.underlying85 (by kernel_rfl) rfl rfl (by kernel_rfl) (by kernel_rfl) h with ⟨rfl, _⟩ | ⟨a, l, c, m, n, V0, V1, D0, D1, P0, P1, rfl, _, hl, hm, hmm, _, hx⟩
  · exact ⟨none, 0, 0, 0, [], rfl, rfl, Nat.le_refl _, by decide, fun _ => rfl, fun h => absurd h (by omega), fun h => absurd h (by omega), fun y hy => by cases hy⟩
  · simp only [if_true] at hmm
    subst hmm
    have each : ∀ i, i < l → ∃ q : Int × List Int, w.cell? (a.add (i * 2)) = some (.int .u16 q.1) ∧ (0 ≤ q.1 ∧ q.1 ≤ 65535) ∧ ∃ ka kn kc kb, w.cell? (a.add (i * 2 + 1)) = some (.slice ka kn kc) ∧ Rd w kb ka kn kc q.2 ∧ (0 < kn → kb < w.heap.size) := by
      intro i hi
      obtain ⟨g0, g1, g2, g3⟩ := hx i (by omega)
      obtain ⟨z, hz, _, hzw⟩ := DataW.trod_int Try.underlying37 g2
      obtain ⟨ka, kn, kc, kb, xs, hk, R, hb⟩ := opB g3
      simp only [List.cons.injEq, and_true] at hz hk
      exact ⟨(z, xs), by rw [g0, hz], bounds_u16 hzw, ka, kn, kc, kb, by rw [g1, hk], R, hb⟩
    obtain ⟨q, hq⟩ := Deep.choose_lt each
    have hgd : ∀ j, j < l → (((List.range l).map q).getD j (0, [])) = q j := by
      intro j hj
      simp [List.getD, hj]
    have hspot : 0 < l → a.spot = none := by
      intro h0
      simpa [Addr.add] using World.cell?_spot (hq 0 h0).1
    refine ⟨_, _, _, a.block, (List.range l).map q, rfl, by simp, hl, hm, (fun e => by cases e), fun h0 => ?_, fun h0 => ?_, fun x hx => ?_⟩
    · exact World.block_lt_of_cell? w _ (hq 0 h0).1
    · have hs := hspot h0
      refine ⟨a.off, by cases a; simp_all, fun j hj => ?_⟩
      rw [hgd j hj]
      obtain ⟨g1, g2, ka, kn, kc, kb, g3, g4, g5⟩ := hq j hj
      have e : a = ⟨a.block, a.off, none⟩ := by cases a; simp_all
      rw [e, add_plain] at g1 g3
      exact ⟨g1, ka, kn, kc, kb, by simpa [Nat.add_assoc] using g3, g4, g5⟩
    · obtain ⟨j, hj, rfl⟩ := List.mem_map.1 hx
      exact (hq j (List.mem_range.1 hj)).2.1

theorem Try.cells42 : Try.prog.cellsOf 42 = 45 := by kernel_rfl
theorem Try.cells38 : Try.prog.cellsOf 38 = 32 := by kernel_rfl
theorem Try.cells37 : Try.prog.cellsOf 37 = 1 := by kernel_rfl
theorem Try.cells39 : Try.prog.cellsOf 39 = 1 := by kernel_rfl
theorem Try.cells40 : Try.prog.cellsOf 40 = 1 := by kernel_rfl
theorem Try.cells9 : Try.prog.cellsOf 9 = 1 := by kernel_rfl
theorem Try.cells4 : Try.prog.cellsOf 4 = 1 := by kernel_rfl

theorem opR {n : Nat} {cs : List Value} {y : DataW H × List MemPlace} (h : DataW.trod enc Try.prog w 0 (fun _ => true) true n 38 cs = some y) :
    ∃ xs : List Int, xs.length = 32 ∧ (∀ i, i < 32 → cs[i]? = some (.int .u8 (xs.getD i 0))) ∧ ∀ x ∈ xs, 0 ≤ x ∧ x ≤ 255 := by
  obtain ⟨xs, m, _, _, hl, hxl, hx⟩ := DataW.trod_array Try.underlying38 h
  have each : ∀ i, i < 32 → ∃ z : Int, cs[i]? = some (.int .u8 z) ∧ (0 ≤ z ∧ z ≤ 255) := by
    intro i hi
    have hg := hx i hi
    rw [Try.cells5, Nat.mul_one] at hg
    obtain ⟨y, hy⟩ : ∃ y, xs[i]? = some y := ⟨xs[i], by simp⟩
    rw [hy] at hg
    obtain ⟨z, hz, _, hw⟩ := DataW.trod_int Try.underlying5 hg
    exact ⟨z, one_at hz, bounds_u8 hw⟩
  obtain ⟨q, hq⟩ := Deep.choose_lt each
  refine ⟨(List.range 32).map q, by simp, fun i hi => ?_, fun x hx => ?_⟩
  · rw [(hq i hi).1]
    simp [List.getD, hi]
  · obtain ⟨j, hj, rfl⟩ := List.mem_map.1 hx
    exact (hq j (List.mem_range.1 hj)).2


set_option maxRecDepth 20000 in
theorem open42 {base : Nat} {v : Value} {d : DataW H} {p : List MemPlace} (hval : Value.okWide Try.prog w .any base 42 v) (h0 : DataW.Trod enc Try.prog w 0 (fun _ => true) true 42 v d p) :
    ∃ arr m, v = .agg arr ∧ arr.size = 45 ∧ HelloAt (w.alloc (.cells arr 42)) (w.heap.size + 1) w.heap.size m := by
  obtain ⟨arr, rfl, hsz⟩ := okWide_struct Try.underlying42 hval
  rw [Try.cells42] at hsz
  obtain ⟨fuel, hf⟩ := h0
  obtain ⟨xs, n, _, _, hl, hxl, hx⟩ := DataW.trod_struct Try.underlying42 hf
  have hxl' : xs.length = 14 := hxl
  have get : ∀ i, i < 14 → ∃ y, xs[i]? = some y := fun i hi => ⟨xs[i], by simp⟩
  have bel : Below w.heap.size w (w.alloc (.cells arr 42)) := (Below.refl _ w).alloc (Nat.le_refl _) _
  have cel : ∀ {o : Nat} {v : Value}, arr.toList[o]? = some v → (w.alloc (.cells arr 42)).cell? ⟨w.heap.size, o, none⟩ = some v := fun {o v} h => by
    rw [alloc_cell]
    simpa using h
  have f0 : DataW.trod enc Try.prog w 0 (fun _ => true) true n 37 ((arr.toList.drop 0).take (Try.prog.cellsOf 37)) = xs[0]? := hx 0 _ rfl
  obtain ⟨y0, e0⟩ := get 0 (by omega)
  rw [e0] at f0
  rw [Try.cells37] at f0
  obtain ⟨ver, g0, _, b0⟩ := DataW.trod_int Try.underlying37 f0
  have c0 := cel (one_at g0)
  clear f0 e0
  have f1 : DataW.trod enc Try.prog w 0 (fun _ => true) true n 38 ((arr.toList.drop 1).take (Try.prog.cellsOf 38)) = xs[1]? := hx 1 _ rfl
  obtain ⟨y1, e1⟩ := get 1 (by omega)
  rw [e1] at f1
  rw [Try.cells38] at f1
  obtain ⟨rnd, l1, g1, b1⟩ := opR f1
  clear f1 e1
  have f2 : DataW.trod enc Try.prog w 0 (fun _ => true) true n 22 ((arr.toList.drop 33).take (Try.prog.cellsOf 22)) = xs[2]? := hx 2 _ rfl
  obtain ⟨y2, e2⟩ := get 2 (by omega)
  rw [e2] at f2
  rw [Try.cells22] at f2
  obtain ⟨a2, n2, k2, q2, sid, g2, R2, b2⟩ := opB f2
  have c2 : BSl (w.alloc (.cells arr 42)) (w.heap.size + 1) w.heap.size 33 sid := ⟨_, _, _, _, cel (one_at g2), R2.move fun hn => bel.block _ (b2 hn), fun hn => Nat.lt_succ_of_lt (b2 hn)⟩
  clear f2 e2
  have f3 : DataW.trod enc Try.prog w 0 (fun _ => true) true n 22 ((arr.toList.drop 34).take (Try.prog.cellsOf 22)) = xs[3]? := hx 3 _ rfl
  obtain ⟨y3, e3⟩ := get 3 (by omega)
  rw [e3] at f3
  rw [Try.cells22] at f3
  obtain ⟨a3, n3, k3, q3, lck, g3, R3, b3⟩ := opB f3
  have c3 : BSl (w.alloc (.cells arr 42)) (w.heap.size + 1) w.heap.size 34 lck := ⟨_, _, _, _, cel (one_at g3), R3.move fun hn => bel.block _ (b3 hn), fun hn => Nat.lt_succ_of_lt (b3 hn)⟩
  clear f3 e3
  have f4 : DataW.trod enc Try.prog w 0 (fun _ => true) true n 39 ((arr.toList.drop 35).take (Try.prog.cellsOf 39)) = xs[4]? := hx 4 _ rfl
  obtain ⟨y4, e4⟩ := get 4 (by omega)
  rw [e4] at f4
  rw [Try.cells39] at f4
  obtain ⟨a4, n4, k4, q4, cs, g4, R4, b4⟩ := opU f4
  have c4 : USl (w.alloc (.cells arr 42)) (w.heap.size + 1) w.heap.size 35 cs := ⟨_, _, _, _, cel (one_at g4), R4.move fun hn => bel.block _ (b4 hn), fun hn => Nat.lt_succ_of_lt (b4 hn)⟩
  clear f4 e4
  have f5 : DataW.trod enc Try.prog w 0 (fun _ => true) true n 22 ((arr.toList.drop 36).take (Try.prog.cellsOf 22)) = xs[5]? := hx 5 _ rfl
  obtain ⟨y5, e5⟩ := get 5 (by omega)
  rw [e5] at f5
  rw [Try.cells22] at f5
  obtain ⟨a5, n5, k5, q5, cmp, g5, R5, b5⟩ := opB f5
  have c5 : BSl (w.alloc (.cells arr 42)) (w.heap.size + 1) w.heap.size 36 cmp := ⟨_, _, _, _, cel (one_at g5), R5.move fun hn => bel.block _ (b5 hn), fun hn => Nat.lt_succ_of_lt (b5 hn)⟩
  clear f5 e5
  have f6 : DataW.trod enc Try.prog w 0 (fun _ => true) true n 9 ((arr.toList.drop 37).take (Try.prog.cellsOf 9)) = xs[6]? := hx 6 _ rfl
  obtain ⟨y6, e6⟩ := get 6 (by omega)
  rw [e6] at f6
  rw [Try.cells9] at f6
  obtain ⟨nm, g6, _, b6⟩ := DataW.trod_string Try.underlying9 f6
  have c6 := cel (one_at g6)
  clear f6 e6
  have f7 : DataW.trod enc Try.prog w 0 (fun _ => true) true n 39 ((arr.toList.drop 38).take (Try.prog.cellsOf 39)) = xs[7]? := hx 7 _ rfl
  obtain ⟨y7, e7⟩ := get 7 (by omega)
  rw [e7] at f7
  rw [Try.cells39] at f7
  obtain ⟨a7, n7, k7, q7, sv, g7, R7, b7⟩ := opU f7
  have c7 : USl (w.alloc (.cells arr 42)) (w.heap.size + 1) w.heap.size 38 sv := ⟨_, _, _, _, cel (one_at g7), R7.move fun hn => bel.block _ (b7 hn), fun hn => Nat.lt_succ_of_lt (b7 hn)⟩
  clear f7 e7
  have f8 : DataW.trod enc Try.prog w 0 (fun _ => true) true n 39 ((arr.toList.drop 39).take (Try.prog.cellsOf 39)) = xs[8]? := hx 8 _ rfl
  obtain ⟨y8, e8⟩ := get 8 (by omega)
  rw [e8] at f8
  rw [Try.cells39] at f8
  obtain ⟨a8, n8, k8, q8, sg, g8, R8, b8⟩ := opU f8
  have c8 : USl (w.alloc (.cells arr 42)) (w.heap.size + 1) w.heap.size 39 sg := ⟨_, _, _, _, cel (one_at g8), R8.move fun hn => bel.block _ (b8 hn), fun hn => Nat.lt_succ_of_lt (b8 hn)⟩
  clear f8 e8
  have f9 : DataW.trod enc Try.prog w 0 (fun _ => true) true n 39 ((arr.toList.drop 40).take (Try.prog.cellsOf 39)) = xs[9]? := hx 9 _ rfl
  obtain ⟨y9, e9⟩ := get 9 (by omega)
  rw [e9] at f9
  rw [Try.cells39] at f9
  obtain ⟨a9, n9, k9, q9, ss, g9, R9, b9⟩ := opU f9
  have c9 : USl (w.alloc (.cells arr 42)) (w.heap.size + 1) w.heap.size 40 ss := ⟨_, _, _, _, cel (one_at g9), R9.move fun hn => bel.block _ (b9 hn), fun hn => Nat.lt_succ_of_lt (b9 hn)⟩
  clear f9 e9
  have f10 : DataW.trod enc Try.prog w 0 (fun _ => true) true n 40 ((arr.toList.drop 41).take (Try.prog.cellsOf 40)) = xs[10]? := hx 10 _ rfl
  obtain ⟨y10, e10⟩ := get 10 (by omega)
  rw [e10] at f10
  rw [Try.cells40] at f10
  obtain ⟨a10, n10, k10, q10, ks, g10, R10⟩ := opK f10
  have c10 : KSl (w.alloc (.cells arr 42)) (w.heap.size + 1) w.heap.size 41 ks := ⟨_, _, _, _, cel (one_at g10), (R10.below bel).mono (Nat.le_succ _)⟩
  clear f10 e10
  have f11 : DataW.trod enc Try.prog w 0 (fun _ => true) true n 22 ((arr.toList.drop 42).take (Try.prog.cellsOf 22)) = xs[11]? := hx 11 _ rfl
  obtain ⟨y11, e11⟩ := get 11 (by omega)
  rw [e11] at f11
  rw [Try.cells22] at f11
  obtain ⟨a11, n11, k11, q11, ck, g11, R11, b11⟩ := opB f11
  have c11 : BSl (w.alloc (.cells arr 42)) (w.heap.size + 1) w.heap.size 42 ck := ⟨_, _, _, _, cel (one_at g11), R11.move fun hn => bel.block _ (b11 hn), fun hn => Nat.lt_succ_of_lt (b11 hn)⟩
  clear f11 e11
  have f12 : DataW.trod enc Try.prog w 0 (fun _ => true) true n 22 ((arr.toList.drop 43).take (Try.prog.cellsOf 22)) = xs[12]? := hx 12 _ rfl
  obtain ⟨y12, e12⟩ := get 12 (by omega)
  rw [e12] at f12
  rw [Try.cells22] at f12
  obtain ⟨a12, n12, k12, q12, cid, g12, R12, b12⟩ := opB f12
  have c12 : BSl (w.alloc (.cells arr 42)) (w.heap.size + 1) w.heap.size 43 cid := ⟨_, _, _, _, cel (one_at g12), R12.move fun hn => bel.block _ (b12 hn), fun hn => Nat.lt_succ_of_lt (b12 hn)⟩
  clear f12 e12
  have f13 : DataW.trod enc Try.prog w 0 (fun _ => true) true n 4 ((arr.toList.drop 44).take (Try.prog.cellsOf 4)) = xs[13]? := hx 13 _ rfl
  obtain ⟨y13, e13⟩ := get 13 (by omega)
  rw [e13] at f13
  rw [Try.cells4] at f13
  obtain ⟨has, g13, _⟩ := DataW.trod_bool Try.underlying4 f13
  have c13 := cel (one_at g13)
  clear f13 e13
  refine ⟨arr, ⟨ver, rnd, sid, lck, cs, cmp, nm, sv, sg, ss, ks, ck, cid, has⟩, rfl, hsz, Nat.lt_succ_self _, c0, bounds_u16 b0, fun i hi => ?_, l1, b1, c2, c3, c4, c5, c6, b6, c7, c8, c9, c10, c11, c12, c13⟩
  have := g1 i hi
  rw [List.getElem?_take, if_pos hi, List.getElem?_drop] at this
  exact cel this
end
end Go.Proofs.Qxb6615713a
