/- THE READER AS A LIST: what is still to be read; the contracts of the exported reader functions in that form. -/
import Derived.Test.Qxb6615713aEnc
import Derived.Test.Qxb6615713aArgs
import Derived.Deep.QuietTactic
import Derived.BigQuiet
namespace Go.Proofs.Qxb6615713a
open Go.RowKit
set_option linter.unusedSimpArgs false
set_option linter.unusedVariables false

/-- The reader in block r has the bytes xs still to read; they lie in block b. -/
def Rg (w : World) (r b : Nat) (xs : List Int) : Prop := ∃ a c, RdrAt w r a xs.length c false ∧ Rd w b a xs.length c xs ∧ (0 < xs.length → b ≠ r)

theorem Rg.lt {w : World} {r b : Nat} {xs : List Int} (h : Rg w r b xs) : r < w.heap.size := by
  obtain ⟨a, c, h1, h2, h3⟩ := h
  exact lt_of_block h1
theorem Rg.move {w w' : World} {r b : Nat} {xs : List Int} (h : Rg w r b xs) (hr : w'.heap[r]? = w.heap[r]?) (hb : 0 < xs.length → w'.heap[b]? = w.heap[b]?) : Rg w' r b xs := by
  obtain ⟨a, c, h1, h2, h3⟩ := h
  exact ⟨a, c, hr.trans h1, h2.move hb, h3⟩
theorem Rg.fr0 {w w' : World} {r b : Nat} {xs : List Int} (h : Rg w r b xs) (hf : Fr [] w w') : Rg w' r b xs :=
  h.move (hf.block r h.lt (by simp)) (fun hn => by obtain ⟨a, c, h1, h2, h3⟩ := h; exact hf.block b (h2.lt hn) (by simp))
theorem Rd.fr1 {w w' : World} {r b : Nat} {a : Option Addr} {n c : Nat} {xs : List Int} (h : Rd w b a n c xs) (hf : Fr [r] w w') (hb : 0 < n → b ≠ r) : Rd w' b a n c xs :=
  h.move fun hn => hf.block b (h.lt hn) (by simpa using hb hn)

theorem Rd.fr {w w' : World} {b : Nat} {a : Option Addr} {n c : Nat} {xs : List Int} (h : Rd w b a n c xs) (hf : Fr [] w w') : Rd w' b a n c xs :=
  h.move fun hn => hf.block b (h.lt hn) (by simp)

theorem rnew (b : Nat) (a : Option Addr) (n c : Nat) (xs : List Int) (w : World) (h : Rd w b a n c xs) :
    Calls Try.prog 12 #[.slice a n c, .bool false] w fun e w' => e = .returned (.pointer (some ⟨w.heap.size, 0, none⟩)) ∧ Rg w' w.heap.size b xs ∧ Fr [] w w' := by
  refine (znewReader a n c false w).mono ?_
  rintro e w' ⟨rfl, h1, hf⟩
  have hl := h.len
  subst hl
  exact ⟨rfl, ⟨a, c, h1, Rd.fr h hf, fun hn => by have := h.lt hn; omega⟩, hf⟩

theorem ruint (r b k : Nat) (ys xs : List Int) (w : World) (h : Rg w r b (ys ++ xs)) (hk : ys.length = k) (hk3 : k ≤ 3) :
    Calls Try.prog 27 #[.pointer (some ⟨r, 0, none⟩), .int .i64 k] w fun e w' => e = .returned (.int .u32 (beV ys)) ∧ Rg w' r b xs ∧ Fr [r] w w' := by
  obtain ⟨a, c, h1, h2, h3⟩ := h
  subst hk
  refine (zuint_ok r ys.length b a _ c _ w h1 h2 (by simp) h3 hk3).mono ?_
  rintro e w' ⟨rfl, a2, h4, h5, hf⟩
  rw [List.take_left' rfl]
  rw [List.drop_left' rfl, List.length_append, Nat.add_sub_cancel_left] at h5
  rw [List.length_append, Nat.add_sub_cancel_left] at h4
  simp only [List.length_append] at h3
  exact ⟨rfl, ⟨a2, _, h4, Rd.fr1 h5 hf (fun hn => h3 (by omega)), fun hn => h3 (by omega)⟩, hf⟩

theorem rtake (r b k : Nat) (ys xs : List Int) (w : World) (h : Rg w r b (ys ++ xs)) (hk : ys.length = k) :
    Calls Try.prog 28 #[.pointer (some ⟨r, 0, none⟩), .int .i64 k] w fun e w' => ∃ a1, e = .returned (.slice a1 k k) ∧ Rd w' b a1 k k ys ∧ Rg w' r b xs ∧ Fr [r] w w' ∧ (0 < k → b ≠ r) := by
  obtain ⟨a, c, h1, h2, h3⟩ := h
  subst hk
  refine (ztake_ok r ys.length b a _ c _ w h1 h2 (by simp)).mono ?_
  rintro e w' ⟨a1, rfl, h6, a2, h4, h5, hf⟩
  rw [List.take_left' rfl] at h6
  rw [List.drop_left' rfl, List.length_append, Nat.add_sub_cancel_left] at h5
  rw [List.length_append, Nat.add_sub_cancel_left] at h4
  simp only [List.length_append] at h3
  exact ⟨a1, rfl, Rd.fr1 h6 hf (fun hn => h3 (by omega)), ⟨a2, _, h4, Rd.fr1 h5 hf (fun hn => h3 (by omega)), fun hn => h3 (by omega)⟩, hf, fun hn => h3 (by omega)⟩

theorem rvec (r b k n : Nat) (ys xs : List Int) (w : World) (h : Rg w r b (vec k ys ++ xs)) (hn : ys.length = n) (hk3 : k ≤ 3) (hq : (ys.length : Int) < 256 ^ k) :
    Calls Try.prog 13 #[.pointer (some ⟨r, 0, none⟩), .int .i64 k] w fun e w' => ∃ a1, e = .returned (.slice a1 n n) ∧ Rd w' b a1 n n ys ∧ Rg w' r b xs ∧ Fr [r] w w' ∧ (0 < n → b ≠ r) := by
  obtain ⟨a, c, h1, h2, h3⟩ := h
  subst hn
  have t1 : List.take k (vec k ys ++ xs) = be k ys.length := by rw [vec, List.append_assoc]; exact List.take_left' (be_length _ _)
  have t2 : List.drop k (vec k ys ++ xs) = ys ++ xs := by rw [vec, List.append_assoc]; exact List.drop_left' (be_length _ _)
  have hl : (vec k ys ++ xs).length = k + ys.length + xs.length := by rw [List.length_append, vec_length]
  refine (zvector_ok r k ys.length b a _ c _ w h1 h2 (by omega) h3 hk3 (by rw [t1, beV_be _ _ (by omega) hq]) (by omega)).mono ?_
  rintro e w' ⟨a1, rfl, h6, a2, h4, h5, hf⟩
  rw [t2, List.take_left' rfl] at h6
  have hl2 : (vec k ys ++ xs).length - k - ys.length = xs.length := by omega
  rw [t2, List.drop_left' rfl, hl2] at h5
  rw [hl2] at h4
  rw [hl] at h3
  exact ⟨a1, rfl, Rd.fr1 h6 hf (fun hn => h3 (by omega)), ⟨a2, _, h4, Rd.fr1 h5 hf (fun hn => h3 (by omega)), fun hn => h3 (by omega)⟩, hf, fun hn => h3 (by omega)⟩

theorem rfailed (r b : Nat) (xs : List Int) (w : World) (h : Rg w r b xs) :
    Calls Try.prog 15 #[.pointer (some ⟨r, 0, none⟩)] w fun e w' => e = .returned (.bool false) ∧ w' = w := by
  obtain ⟨a, c, h1, h2, h3⟩ := h
  exact zfailed r a _ c false w h1
theorem rrest (r b : Nat) (xs : List Int) (w : World) (h : Rg w r b xs) :
    Calls Try.prog 14 #[.pointer (some ⟨r, 0, none⟩)] w fun e w' => ∃ a c, e = .returned (.slice a xs.length c) ∧ w' = w := by
  obtain ⟨a, c, h1, h2, h3⟩ := h
  exact (zrest r a _ c false w h1).mono fun e w' ⟨h1, h2⟩ => ⟨a, c, h1, h2⟩

theorem Fr.nil {r : Nat} {w w' w'' : World} (h : Fr [] w w') (k : Fr [r] w' w'') (hr : w.heap.size ≤ r) : Fr [] w w'' :=
  ⟨k.os.trans h.os, k.tape.trans h.tape, k.output.trans h.output, Nat.le_trans h.size k.size, fun i hi hn => (k.block i (Nat.lt_of_lt_of_le hi h.size) (by simp; omega)).trans (h.block i hi hn)⟩

set_option maxHeartbeats 1000000 in
theorem vectorAlone (b k n N : Nat) (a : Option Addr) (c : Nat) (ys : List Int) (w : World) (h : Rd w b a N c (vec k ys)) (hn : ys.length = n) (hk3 : k ≤ 3) (hq : (ys.length : Int) < 256 ^ k) :
    Calls Try.prog 30 #[.slice a N c, .int .i64 k] w fun e w' => ∃ a1, e = .returned (.tuple #[.slice a1 n n, .bool true]) ∧ Rd w' b a1 n n ys ∧ Fr [] w w' := by
  have HQ : Hid ((ys.length : Int) < 256 ^ k) := hq
  clear hq
  go_enter Try.func30, Try.ntmps30
  go_wp2_with fail
  refine (rnew b a N c _ _ h).mono ?_
  rintro e w1 ⟨rfl, h1, hf1⟩
  go_wp2_with fail
  refine (rvec _ b k n ys [] _ (by rw [List.append_nil]; exact h1) hn hk3 HQ.out).mono ?_
  rintro e w2 ⟨a1, rfl, h2, h3, hf2, hne⟩
  go_wp2_with fail
  refine (rfailed _ _ _ _ h3).mono ?_
  rintro e w3 ⟨rfl, rfl⟩
  go_wp2_with fail
  refine (rrest _ _ _ _ h3).mono ?_
  rintro e w4 ⟨a4, c4, rfl, rfl⟩
  go_wp2_with fail
  go_ret2
  exact ⟨a1, rfl, h2, hf1.nil hf2 (Nat.le_refl _)⟩
end Go.Proofs.Qxb6615713a
