/- THE WALK of FnEncryptedExtensionsMarshalIsEmptyExtensionBlock. -/
import Derived.Test.Qxb6615713aVector
namespace Go.Proofs.Qxb6615713a.fnEncryptedExtensionsMarshalIsEmptyExtensionBlock
open Go.RowKit
set_option linter.unusedSimpArgs false
set_option linter.unusedVariables false

set_option maxHeartbeats 400000 in
theorem emarshal (x : Addr) (w : World) :
    Calls Try.prog 35 #[.pointer (some x)] w fun e w' => e = .returned (.slice (some ⟨w.heap.size, 0, none⟩) 2 2) ∧ Rd w' w.heap.size (some ⟨w.heap.size, 0, none⟩) 2 2 [0, 0] ∧ Fr [] w w' := by
  go_enter Try.func35, Try.ntmps35
  go_wp2
  go_ret
  exact ⟨rfl, rd_two w 0 0 (by omega) (by omega), Fr.alloc _ _ _⟩

set_option maxHeartbeats 800000 in
theorem walk (w : World) :
    Calls Try.prog 7 #[] w fun e w' => e = .returned (.bool true) ∧ Below w.heap.size w w' := by
  go_enter Try.func7, Try.ntmps7
  go_wp2_with fail
  refine (emarshal _ _).mono ?_
  rintro e w1 ⟨rfl, hd1, hf1⟩
  go_wp2_with fail
  have hd1 : Rd w1 (w.heap.size + 1) (some ⟨w.heap.size + 1, 0, none⟩) 2 2 [0, 0] := by simpa using hd1
  have hlt1 := hd1.lt (by omega)
  refine (znewReader _ _ _ _ _).mono ?_
  rintro e w2 ⟨rfl, hr2, hf2⟩
  have hd2 := hd1.move fun _ => hf2.block _ hlt1 (by simp)
  go_wp2_with fail
  refine (zvector_ok w1.heap.size 2 0 (w.heap.size + 1) _ 2 2 [0, 0] _ hr2 hd2 (by omega) (fun _ => by omega) (by omega) (by simp [beV]) (by omega)).mono ?_
  rintro e w3 ⟨a3, rfl, hd3, a4, hr4, hd4, hf3⟩
  go_wp2_with fail
  refine (zfailed _ _ _ _ _ _ hr4).mono ?_
  rintro e w4 ⟨rfl, rfl⟩
  go_wp2_with fail
  refine (zrest _ _ _ _ _ _ hr4).mono ?_
  rintro e w5 ⟨rfl, rfl⟩
  go_wp2_with fail
  have hs2 := hf2.size
  have hs3 := hf3.size
  have hd5 := hd2.move fun _ => hf3.block _ (by omega) (by simp; omega)
  refine (znewWriter _).mono ?_
  rintro e w6 ⟨rfl, hw6, hf6⟩
  have hd6 := hd5.move fun _ => hf6.block _ (by omega) (by simp)
  have hs6 := hf6.size
  go_wp2_with fail
  refine (zbytesVector w5.heap.size 2 0 _ [] [] none 0 0 _ hw6 (by omega) (Rd.empty _ _) (fun h => absurd h (by omega)) (by decide) (by simp)).mono ?_
  rintro e w7 ⟨rfl, v7, hw7, hg7⟩
  rw [show ([] ++ be 2 (([] : List Int).length : Int) ++ [] : List Int) = [0, 0] by decide] at hw7
  have hd7 := hg7.rd hd6 (fun _ => ⟨by omega, by simp [Value.ownBlock]⟩)
  obtain ⟨b8, a8, c8, hv8, hd8, _⟩ := hw7.own.rd hw7.wf
  subst hv8
  go_wp2_with fail
  refine (zout _ _ _ _ _ _ hw7).mono ?_
  rintro e w8 ⟨rfl, rfl⟩
  go_wp2_with fail
  refine (equal_yes _ _ _ _ _ _ _ _ _ hd8 hd7).mono ?_
  rintro e w9 ⟨rfl, hf9⟩
  go_wp2
  go_ret
  refine ⟨rfl, ?_⟩
  have hs1 := hf1.size
  have hs7 := hg7.size
  simp only [World.size_alloc] at hs1
  have B1 := ((Below.refl w.heap.size w).alloc (Nat.le_refl _) (.cells #[] 60)).trans (hf1.below (by simp) (fun k hk => by cases hk))
  exact ((((B1.trans (hf2.below (by omega) (fun k hk => by cases hk))).trans (hf3.below (by omega) (fun k hk => by simp at hk; omega))).trans (hf6.below (by omega) (fun k hk => by cases hk))).trans (hg7.below (by omega) (by omega) (fun g hg => by simp [Value.ownBlock] at hg))).trans (hf9.below (by omega) (fun k hk => by cases hk))
end Go.Proofs.Qxb6615713a.fnEncryptedExtensionsMarshalIsEmptyExtensionBlock
