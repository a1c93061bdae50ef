/- The struct copied; the steps that both ClientHello laws take first. -/
import Derived.Test.Qxb6615713aCidPlain
namespace Go.Proofs.Qxb6615713a
open Go.RowKit
set_option linter.unusedSimpArgs false
set_option linter.unusedVariables false

theorem HelloAt.copy {W1 W2 : World} {p p2 q0 q2 : Nat} {m : CH} (h : HelloAt W1 p q0 m) (hc : ∀ o, W2.cell? ⟨q2, o, none⟩ = W1.cell? ⟨q0, o, none⟩) (hb : Below p W1 W2) (hq : q2 < p2) (hp : p ≤ p2) : HelloAt W2 p2 q2 m := by
  have bs : ∀ o xs, BSl W1 p q0 o xs → BSl W2 p2 q2 o xs := fun o xs ⟨a, n, c, b, h1, h2, h3⟩ => ⟨a, n, c, b, (hc o).trans h1, h2.move fun hn => hb.block b (h3 hn), fun hn => by have := h3 hn; omega⟩
  have us : ∀ o xs, USl W1 p q0 o xs → USl W2 p2 q2 o xs := fun o xs ⟨a, n, c, b, h1, h2, h3⟩ => ⟨a, n, c, b, (hc o).trans h1, h2.move fun hn => hb.block b (h3 hn), fun hn => by have := h3 hn; omega⟩
  have ks : KSl W2 p2 q2 41 m.ks := by
    obtain ⟨a, n, c, b, h1, h2⟩ := h.ks
    exact ⟨a, n, c, b, (hc 41).trans h1, (h2.below hb).mono hp⟩
  exact ⟨hq, (hc 0).trans h.ver, h.verB, fun i hi => (hc (1 + i)).trans (h.rnd i hi), h.rndL, h.rndB, bs _ _ h.sid, bs _ _ h.lck, us _ _ h.cs, bs _ _ h.cmp, (hc 37).trans h.nm, h.nmL, us _ _ h.sv, us _ _ h.sg, us _ _ h.ss, ks, bs _ _ h.ck, bs _ _ h.cid, (hc 44).trans h.has⟩

theorem alloc_cell (w : World) (arr : Array Value) (o : Nat) : (w.alloc (.cells arr 42)).cell? ⟨w.heap.size, o, none⟩ = arr[o]? := by
  have hg : (w.alloc (.cells arr 42)).heap[w.heap.size]? = some (.cells arr 42 (0, 0)) := heap_alloc_new w _
  exact cell_of_row _ _ _ _ _ _ hg

theorem Try.info42 : (Try.prog.info? 42).map (·.size) = some 45 := by kernel_rfl

theorem HelloAt.again {w : World} {arr : Array Value} {m : CH} (h : HelloAt (w.alloc (.cells arr 42)) (w.heap.size + 1) w.heap.size m) (W : World) (hb : Below (w.heap.size + 1) (w.alloc (.cells arr 42)) W) : HelloAt (W.alloc (.cells arr 42)) (W.heap.size + 1) W.heap.size m := by
  have hs := hb.size
  simp only [World.size_alloc] at hs
  exact h.copy (fun o => (alloc_cell W arr o).trans (alloc_cell w arr o).symm) (hb.trans ((Below.refl _ W).alloc (by omega) _)) (by omega) (by omega)

theorem fits0 {m : CH} (h1 : m.sid.length ≤ 255) (h2 : m.lck.length ≤ 255) (h3 : m.cmp.length ≤ 255) (h4 : 2 * m.cs.length ≤ 65535) (h5 : 2 * m.sv.length ≤ 255) (h6 : m.cid.length ≤ 255) (h7 : extLen m true ≤ 65535) : Fits { m with has := false } ∧ Fits { m with has := true } := by
  refine ⟨⟨h1, h2, h4, h3, h5, (fun h => by cases h), ?_⟩, ⟨h1, h2, h4, h3, h5, fun _ => h6, h7⟩⟩
  have := extLen_true m
  show extLen m false ≤ 65535
  omega
end Go.Proofs.Qxb6615713a
