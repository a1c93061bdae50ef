/- THE WALK of FnReaderVectorReadsBackTwoWrittenVectors. -/
import Derived.Test.Qxb6615713aArgs
namespace Go.Proofs.Qxb6615713a.fnReaderVectorReadsBackTwoWrittenVectors
open Go.RowKit
set_option linter.unusedSimpArgs false
set_option linter.unusedVariables false

theorem Rd.fr0 {w w' : World} {b : Nat} {a : Option Addr} {n c : Nat} {xs : List Int} (h : Rd w b a n c xs) (hf : Fr [] w w') : Rd w' b a n c xs := h.move fun hn => hf.block _ (h.lt hn) (by simp)

set_option maxHeartbeats 800000 in
theorem zzb21_yes (k1 k2 : Int) (a1 a2 a3 : Option Addr) (n1 c1 n2 c2 n3 c3 : Nat) (w : World) (h : n1 + n2 + n3 ≤ 1048576) :
    Calls Try.prog 21 #[.int .i64 k1, .slice a1 n1 c1, .int .i64 k2, .slice a2 n2 c2, .slice a3 n3 c3] w fun e w' => e = .returned (.bool true) ∧ w' = w := by
  have h1 : ¬ (1048576 : Int) < n1 := by omega
  have h2 : ¬ (1048576 : Int) < n2 := by omega
  have h3 : ¬ (1048576 : Int) < n3 := by omega
  have h4 : ¬ (1048576 : Int) < n1 + n2 := by omega
  have h5 : ¬ (1048576 : Int) < n1 + n2 + n3 := by omega
  go_enter Try.func21, Try.ntmps21
  go_wp2
  go_ret
  exact ⟨rfl, rfl⟩

set_option maxHeartbeats 800000 in
theorem zzb21_no (k1 k2 : Int) (a1 a2 a3 : Option Addr) (n1 c1 n2 c2 n3 c3 : Nat) (w : World) (h : ¬ (n1 + n2 + n3 ≤ 1048576)) :
    Calls Try.prog 21 #[.int .i64 k1, .slice a1 n1 c1, .int .i64 k2, .slice a2 n2 c2, .slice a3 n3 c3] w fun e w' => e = .returned (.bool false) ∧ w' = w := by
  by_cases h1 : (1048576 : Int) < n1
  · go_enter Try.func21, Try.ntmps21
    go_wp2
    go_ret
    exact ⟨rfl, rfl⟩
  · by_cases h2 : (1048576 : Int) < n2
    · go_enter Try.func21, Try.ntmps21
      go_wp2
      go_ret
      exact ⟨rfl, rfl⟩
    · by_cases h4 : (1048576 : Int) < n1 + n2
      · go_enter Try.func21, Try.ntmps21
        go_wp2
        go_ret
        exact ⟨rfl, rfl⟩
      · by_cases h3 : (1048576 : Int) < n3
        · go_enter Try.func21, Try.ntmps21
          go_wp2
          go_ret
          exact ⟨rfl, rfl⟩
        · have h5 : (1048576 : Int) < n1 + n2 + n3 := by omega
          go_enter Try.func21, Try.ntmps21
          go_wp2
          go_ret
          exact ⟨rfl, rfl⟩

set_option maxHeartbeats 2000000 in
theorem walk_early (k1 k2 : Int) (a1 a2 a3 : Option Addr) (n1 c1 n2 c2 n3 c3 : Nat) (w : World) (h : 262144 < n1 ∨ 262144 < n2 ∨ 262144 < n3 ∨ k1 < 0 ∨ 3 < k1 ∨ k2 < 0 ∨ 3 < k2) :
    Calls Try.prog 4 #[.int .i64 k1, .slice a1 n1 c1, .int .i64 k2, .slice a2 n2 c2, .slice a3 n3 c3] w fun e w' => e = .returned (.bool true) ∧ Below w.heap.size w w' := by
  by_cases hs : n1 + n2 + n3 ≤ 1048576
  · by_cases h1 : (262144 : Int) < n1
    · go_enter Try.func4, Try.ntmps4
      go_wp2_with fail
      refine (zzb21_yes _ _ _ _ _ _ _ _ _ _ _ _ hs).mono ?_
      rintro e w0 ⟨rfl, rfl⟩
      go_wp2
      go_ret
      exact ⟨rfl, Below.refl _ _⟩
    by_cases h2 : (262144 : Int) < n2
    · go_enter Try.func4, Try.ntmps4
      go_wp2_with fail
      refine (zzb21_yes _ _ _ _ _ _ _ _ _ _ _ _ hs).mono ?_
      rintro e w0 ⟨rfl, rfl⟩
      go_wp2
      go_ret
      exact ⟨rfl, Below.refl _ _⟩
    by_cases h3 : (262144 : Int) < n3
    · go_enter Try.func4, Try.ntmps4
      go_wp2_with fail
      refine (zzb21_yes _ _ _ _ _ _ _ _ _ _ _ _ hs).mono ?_
      rintro e w0 ⟨rfl, rfl⟩
      go_wp2
      go_ret
      exact ⟨rfl, Below.refl _ _⟩
    by_cases h4 : k1 < 0
    · go_enter Try.func4, Try.ntmps4
      go_wp2_with fail
      refine (zzb21_yes _ _ _ _ _ _ _ _ _ _ _ _ hs).mono ?_
      rintro e w0 ⟨rfl, rfl⟩
      go_wp2
      go_ret
      exact ⟨rfl, Below.refl _ _⟩
    by_cases h5 : 3 < k1
    · go_enter Try.func4, Try.ntmps4
      go_wp2_with fail
      refine (zzb21_yes _ _ _ _ _ _ _ _ _ _ _ _ hs).mono ?_
      rintro e w0 ⟨rfl, rfl⟩
      go_wp2
      go_ret
      exact ⟨rfl, Below.refl _ _⟩
    by_cases h6 : k2 < 0
    · go_enter Try.func4, Try.ntmps4
      go_wp2_with fail
      refine (zzb21_yes _ _ _ _ _ _ _ _ _ _ _ _ hs).mono ?_
      rintro e w0 ⟨rfl, rfl⟩
      go_wp2
      go_ret
      exact ⟨rfl, Below.refl _ _⟩
    have h7 : 3 < k2 := by omega
    go_enter Try.func4, Try.ntmps4
    go_wp2_with fail
    refine (zzb21_yes _ _ _ _ _ _ _ _ _ _ _ _ hs).mono ?_
    rintro e w0 ⟨rfl, rfl⟩
    go_wp2
    go_ret
    exact ⟨rfl, Below.refl _ _⟩
  · go_enter Try.func4, Try.ntmps4
    go_wp2_with fail
    refine (zzb21_no _ _ _ _ _ _ _ _ _ _ _ _ hs).mono ?_
    rintro e w0 ⟨rfl, rfl⟩
    go_wp2
    go_ret
    exact ⟨rfl, Below.refl _ _⟩

theorem pow_wrap {k : Nat} (hk : k ≤ 3) : wrap64 (2 ^ (8 * k)) = 256 ^ k := by
  rcases (show k = 0 ∨ k = 1 ∨ k = 2 ∨ k = 3 by omega) with rfl | rfl | rfl | rfl <;> decide +kernel

set_option maxHeartbeats 2000000 in
theorem walk_long (k1 k2 : Nat) (a1 a2 a3 : Option Addr) (n1 c1 n2 c2 n3 c3 : Nat) (w : World) (h1 : n1 ≤ 262144) (h2 : n2 ≤ 262144) (h3 : n3 ≤ 262144) (hk1 : k1 ≤ 3) (hk2 : k2 ≤ 3) (h : 256 ^ k1 ≤ (n1 : Int) ∨ 256 ^ k2 ≤ (n2 : Int)) :
    Calls Try.prog 4 #[.int .i64 k1, .slice a1 n1 c1, .int .i64 k2, .slice a2 n2 c2, .slice a3 n3 c3] w fun e w' => e = .returned (.bool true) ∧ Below w.heap.size w w' := by
  have g1 : ¬ (262144 : Int) < n1 := by omega
  have g2 : ¬ (262144 : Int) < n2 := by omega
  have g3 : ¬ (262144 : Int) < n3 := by omega
  have g4 : ¬ (k1 : Int) < 0 := by omega
  have g5 : ¬ (3 : Int) < k1 := by omega
  have g6 : ¬ (k2 : Int) < 0 := by omega
  have g7 : ¬ (3 : Int) < k2 := by omega
  rw [← pow_wrap hk1, ← pow_wrap hk2] at h
  obtain ⟨M1, e1⟩ : ∃ M, wrap64 (2 ^ (8 * k1)) = M := ⟨_, rfl⟩
  obtain ⟨M2, e2⟩ : ∃ M, wrap64 (2 ^ (8 * k2)) = M := ⟨_, rfl⟩
  rw [e1, e2] at h
  by_cases h' : M1 ≤ (n1 : Int)
  · clear h
    go_enter Try.func4, Try.ntmps4
    go_wp2_with fail
    refine (zzb21_yes _ _ _ _ _ _ _ _ _ _ _ _ (by omega)).mono ?_
    rintro e w0 ⟨rfl, rfl⟩
    go_wp2
    go_ret
    exact ⟨rfl, Below.refl _ _⟩
  · have h'' : M2 ≤ (n2 : Int) := h.resolve_left h'
    clear h
    go_enter Try.func4, Try.ntmps4
    go_wp2_with fail
    refine (zzb21_yes _ _ _ _ _ _ _ _ _ _ _ _ (by omega)).mono ?_
    rintro e w0 ⟨rfl, rfl⟩
    go_wp2
    go_ret
    exact ⟨rfl, Below.refl _ _⟩
end Go.Proofs.Qxb6615713a.fnReaderVectorReadsBackTwoWrittenVectors
