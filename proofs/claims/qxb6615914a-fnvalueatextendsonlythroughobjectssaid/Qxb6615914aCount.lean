/- THE WEAK CONTRACTS of zzb1TreeBytes and of the two zzBytes: some number, some answer; the world as it was. Laid by tools/gencount.py. -/
import Derived.Test.Qxb6615914aParts
namespace Go.Proofs.Qxb6615914a
open Go.RowKit
set_option linter.unusedSimpArgs false
set_option linter.unusedVariables false

set_option maxHeartbeats 400000 in
theorem tree_any (w : World) (b0 b1 b3 b4 b5 : Nat) (a0 a1 a3 a4 a5 : Option Addr) (n0 c0 n1 c1 n3 c3 n4 c4 n5 c5 : Nat) (s0 s1 s3 s4 s5 : List ByteArray) (sn : ByteArray)
    (h0 : RdS w b0 a0 n0 c0 s0) (h1 : RdS w b1 a1 n1 c1 s1) (h3 : RdS w b3 a3 n3 c3 s3) (h4 : RdS w b4 a4 n4 c4 s4) (h5 : RdS w b5 a5 n5 c5 s5) :
    Calls Try.prog 6 #[.slice a0 n0 c0, .slice a1 n1 c1, .string sn, .slice a3 n3 c3, .slice a4 n4 c4, .slice a5 n5 c5] w (APost w) := by
  have i0 : IsS w a0 n0 c0 := ⟨_, _, h0⟩
  have i1 : IsS w a1 n1 c1 := ⟨_, _, h1⟩
  have i3 : IsS w a3 n3 c3 := ⟨_, _, h3⟩
  have i4 : IsS w a4 n4 c4 := ⟨_, _, h4⟩
  have i5 : IsS w a5 n5 c5 := ⟨_, _, h5⟩
  clear h0 h1 h3 h4 h5
  go_enter Try.func6, Try.ntmps6
  go_wp2_with (go_at_call 10; refine (add_is _ _ _ _ _ (by assumption)).mono ?_; rintro e w2 ⟨⟨t0, rfl⟩, rfl⟩)
  go_ret
  exact APost.mk _ _

set_option maxRecDepth 20000 in
set_option maxHeartbeats 1000000 in
theorem zz5_any (w : World) (b0 b1 b3 b4 b5 : Nat) (a0 a1 a3 a4 a5 : Option Addr) (n0 c0 n1 c1 n3 c3 n4 c4 n5 c5 : Nat) (s0 s1 s3 s4 s5 : List ByteArray) (sn : ByteArray)
    (h0 : RdS w b0 a0 n0 c0 s0) (h1 : RdS w b1 a1 n1 c1 s1) (h3 : RdS w b3 a3 n3 c3 s3) (h4 : RdS w b4 a4 n4 c4 s4) (h5 : RdS w b5 a5 n5 c5 s5) :
    Calls Try.prog 5 #[.slice a0 n0 c0, .slice a1 n1 c1, .string sn, .slice a3 n3 c3, .slice a4 n4 c4, .slice a5 n5 c5] w (ZPost w) := by
  have hcap0 := h0.cap
  have hmax0 := h0.max
  unfold maxLen at hmax0
  have hcap1 := h1.cap
  have hmax1 := h1.max
  unfold maxLen at hmax1
  have hcap3 := h3.cap
  have hmax3 := h3.max
  unfold maxLen at hmax3
  have hcap4 := h4.cap
  have hmax4 := h4.max
  unfold maxLen at hmax4
  have hcap5 := h5.cap
  have hmax5 := h5.max
  unfold maxLen at hmax5
  go_enter Try.func5, Try.ntmps5
  go_wp2
  all_goals (try (go_ret; exact ZPost.mk _ _))
  go_loopw [13, 14] (fun s i wr => ∃ (j : Nat) (y : Int), j ≤ n0 ∧ i = .int .i64 j ∧ s = .int .i64 y ∧ w = wr) (fun _ i _ => n0 - (intOf i).toNat)
  case atStart => exact ⟨0, _, Nat.zero_le _, rfl, rfl, rfl⟩
  case round =>
    obtain ⟨j, y, hj, rfl, rfl, rfl⟩ := hrel
    by_cases hlt : j < n0
    · obtain ⟨o, rfl, hc⟩ := h0.cell (by omega)
      have e1 := hc j hlt
      clear h0 hc
      generalize s0.getD j ByteArray.empty = s at e1
      go_wp2
      all_goals (try (go_ret; exact ZPost.mk _ _))
      go_roundw
      case rel => exact ⟨j + 1, _, by omega, by go_num, rfl, by simp⟩
      case measure => simp [intOf]; omega
    clear h0
    go_wp2
    all_goals (try (go_ret; exact ZPost.mk _ _))
    go_loopw [13, 15] (fun s i wr => ∃ (j : Nat) (y : Int), j ≤ n1 ∧ i = .int .i64 j ∧ s = .int .i64 y ∧ w = wr) (fun _ i _ => n1 - (intOf i).toNat)
    case atStart => exact ⟨0, _, Nat.zero_le _, rfl, rfl, rfl⟩
    case round =>
      obtain ⟨j, y, hj, rfl, rfl, rfl⟩ := hrel
      by_cases hlt : j < n1
      · obtain ⟨o, rfl, hc⟩ := h1.cell (by omega)
        have e1 := hc j hlt
        clear h1 hc
        generalize s1.getD j ByteArray.empty = s at e1
        go_wp2
        all_goals (try (go_ret; exact ZPost.mk _ _))
        go_roundw
        case rel => exact ⟨j + 1, _, by omega, by go_num, rfl, by simp⟩
        case measure => simp [intOf]; omega
      clear h1
      go_wp2
      all_goals (try (go_ret; exact ZPost.mk _ _))
      go_loopw [13, 16] (fun s i wr => ∃ (j : Nat) (y : Int), j ≤ n3 ∧ i = .int .i64 j ∧ s = .int .i64 y ∧ w = wr) (fun _ i _ => n3 - (intOf i).toNat)
      case atStart => exact ⟨0, _, Nat.zero_le _, rfl, rfl, rfl⟩
      case round =>
        obtain ⟨j, y, hj, rfl, rfl, rfl⟩ := hrel
        by_cases hlt : j < n3
        · obtain ⟨o, rfl, hc⟩ := h3.cell (by omega)
          have e1 := hc j hlt
          clear h3 hc
          generalize s3.getD j ByteArray.empty = s at e1
          go_wp2
          all_goals (try (go_ret; exact ZPost.mk _ _))
          go_roundw
          case rel => exact ⟨j + 1, _, by omega, by go_num, rfl, by simp⟩
          case measure => simp [intOf]; omega
        clear h3
        go_wp2
        all_goals (try (go_ret; exact ZPost.mk _ _))
        go_loopw [13, 17] (fun s i wr => ∃ (j : Nat) (y : Int), j ≤ n4 ∧ i = .int .i64 j ∧ s = .int .i64 y ∧ w = wr) (fun _ i _ => n4 - (intOf i).toNat)
        case atStart => exact ⟨0, _, Nat.zero_le _, rfl, rfl, rfl⟩
        case round =>
          obtain ⟨j, y, hj, rfl, rfl, rfl⟩ := hrel
          by_cases hlt : j < n4
          · obtain ⟨o, rfl, hc⟩ := h4.cell (by omega)
            have e1 := hc j hlt
            clear h4 hc
            generalize s4.getD j ByteArray.empty = s at e1
            go_wp2
            all_goals (try (go_ret; exact ZPost.mk _ _))
            go_roundw
            case rel => exact ⟨j + 1, _, by omega, by go_num, rfl, by simp⟩
            case measure => simp [intOf]; omega
          clear h4
          go_wp2
          all_goals (try (go_ret; exact ZPost.mk _ _))
          go_loopw [13, 18] (fun s i wr => ∃ (j : Nat) (y : Int), j ≤ n5 ∧ i = .int .i64 j ∧ s = .int .i64 y ∧ w = wr) (fun _ i _ => n5 - (intOf i).toNat)
          case atStart => exact ⟨0, _, Nat.zero_le _, rfl, rfl, rfl⟩
          case round =>
            obtain ⟨j, y, hj, rfl, rfl, rfl⟩ := hrel
            by_cases hlt : j < n5
            · obtain ⟨o, rfl, hc⟩ := h5.cell (by omega)
              have e1 := hc j hlt
              clear h5 hc
              generalize s5.getD j ByteArray.empty = s at e1
              go_wp2
              all_goals (try (go_ret; exact ZPost.mk _ _))
              go_roundw
              case rel => exact ⟨j + 1, _, by omega, by go_num, rfl, by simp⟩
              case measure => simp [intOf]; omega
            clear h5
            go_wp2
            all_goals (try (go_ret; exact ZPost.mk _ _))

set_option maxRecDepth 20000 in
set_option maxHeartbeats 1000000 in
theorem zz9_any (w : World) (b0 b1 b3 b4 b5 : Nat) (a0 a1 a3 a4 a5 : Option Addr) (n0 c0 n1 c1 n3 c3 n4 c4 n5 c5 : Nat) (s0 s1 s3 s4 s5 : List ByteArray) (sn x : ByteArray)
    (h0 : RdS w b0 a0 n0 c0 s0) (h1 : RdS w b1 a1 n1 c1 s1) (h3 : RdS w b3 a3 n3 c3 s3) (h4 : RdS w b4 a4 n4 c4 s4) (h5 : RdS w b5 a5 n5 c5 s5) :
    Calls Try.prog 9 #[.slice a0 n0 c0, .slice a1 n1 c1, .string sn, .slice a3 n3 c3, .slice a4 n4 c4, .slice a5 n5 c5, .string x] w (ZPost w) := by
  have hcap0 := h0.cap
  have hmax0 := h0.max
  unfold maxLen at hmax0
  have hcap1 := h1.cap
  have hmax1 := h1.max
  unfold maxLen at hmax1
  have hcap3 := h3.cap
  have hmax3 := h3.max
  unfold maxLen at hmax3
  have hcap4 := h4.cap
  have hmax4 := h4.max
  unfold maxLen at hmax4
  have hcap5 := h5.cap
  have hmax5 := h5.max
  unfold maxLen at hmax5
  go_enter Try.func9, Try.ntmps9
  go_wp2
  all_goals (try (go_ret; exact ZPost.mk _ _))
  go_loopw [15, 16] (fun s i wr => ∃ (j : Nat) (y : Int), j ≤ n0 ∧ i = .int .i64 j ∧ s = .int .i64 y ∧ w = wr) (fun _ i _ => n0 - (intOf i).toNat)
  case atStart => exact ⟨0, _, Nat.zero_le _, rfl, rfl, rfl⟩
  case round =>
    obtain ⟨j, y, hj, rfl, rfl, rfl⟩ := hrel
    by_cases hlt : j < n0
    · obtain ⟨o, rfl, hc⟩ := h0.cell (by omega)
      have e1 := hc j hlt
      clear h0 hc
      generalize s0.getD j ByteArray.empty = s at e1
      go_wp2
      all_goals (try (go_ret; exact ZPost.mk _ _))
      go_roundw
      case rel => exact ⟨j + 1, _, by omega, by go_num, rfl, by simp⟩
      case measure => simp [intOf]; omega
    clear h0
    go_wp2
    all_goals (try (go_ret; exact ZPost.mk _ _))
    go_loopw [15, 17] (fun s i wr => ∃ (j : Nat) (y : Int), j ≤ n1 ∧ i = .int .i64 j ∧ s = .int .i64 y ∧ w = wr) (fun _ i _ => n1 - (intOf i).toNat)
    case atStart => exact ⟨0, _, Nat.zero_le _, rfl, rfl, rfl⟩
    case round =>
      obtain ⟨j, y, hj, rfl, rfl, rfl⟩ := hrel
      by_cases hlt : j < n1
      · obtain ⟨o, rfl, hc⟩ := h1.cell (by omega)
        have e1 := hc j hlt
        clear h1 hc
        generalize s1.getD j ByteArray.empty = s at e1
        go_wp2
        all_goals (try (go_ret; exact ZPost.mk _ _))
        go_roundw
        case rel => exact ⟨j + 1, _, by omega, by go_num, rfl, by simp⟩
        case measure => simp [intOf]; omega
      clear h1
      go_wp2
      all_goals (try (go_ret; exact ZPost.mk _ _))
      go_loopw [15, 18] (fun s i wr => ∃ (j : Nat) (y : Int), j ≤ n3 ∧ i = .int .i64 j ∧ s = .int .i64 y ∧ w = wr) (fun _ i _ => n3 - (intOf i).toNat)
      case atStart => exact ⟨0, _, Nat.zero_le _, rfl, rfl, rfl⟩
      case round =>
        obtain ⟨j, y, hj, rfl, rfl, rfl⟩ := hrel
        by_cases hlt : j < n3
        · obtain ⟨o, rfl, hc⟩ := h3.cell (by omega)
          have e1 := hc j hlt
          clear h3 hc
          generalize s3.getD j ByteArray.empty = s at e1
          go_wp2
          all_goals (try (go_ret; exact ZPost.mk _ _))
          go_roundw
          case rel => exact ⟨j + 1, _, by omega, by go_num, rfl, by simp⟩
          case measure => simp [intOf]; omega
        clear h3
        go_wp2
        all_goals (try (go_ret; exact ZPost.mk _ _))
        go_loopw [15, 19] (fun s i wr => ∃ (j : Nat) (y : Int), j ≤ n4 ∧ i = .int .i64 j ∧ s = .int .i64 y ∧ w = wr) (fun _ i _ => n4 - (intOf i).toNat)
        case atStart => exact ⟨0, _, Nat.zero_le _, rfl, rfl, rfl⟩
        case round =>
          obtain ⟨j, y, hj, rfl, rfl, rfl⟩ := hrel
          by_cases hlt : j < n4
          · obtain ⟨o, rfl, hc⟩ := h4.cell (by omega)
            have e1 := hc j hlt
            clear h4 hc
            generalize s4.getD j ByteArray.empty = s at e1
            go_wp2
            all_goals (try (go_ret; exact ZPost.mk _ _))
            go_roundw
            case rel => exact ⟨j + 1, _, by omega, by go_num, rfl, by simp⟩
            case measure => simp [intOf]; omega
          clear h4
          go_wp2
          all_goals (try (go_ret; exact ZPost.mk _ _))
          go_loopw [15, 20] (fun s i wr => ∃ (j : Nat) (y : Int), j ≤ n5 ∧ i = .int .i64 j ∧ s = .int .i64 y ∧ w = wr) (fun _ i _ => n5 - (intOf i).toNat)
          case atStart => exact ⟨0, _, Nat.zero_le _, rfl, rfl, rfl⟩
          case round =>
            obtain ⟨j, y, hj, rfl, rfl, rfl⟩ := hrel
            by_cases hlt : j < n5
            · obtain ⟨o, rfl, hc⟩ := h5.cell (by omega)
              have e1 := hc j hlt
              clear h5 hc
              generalize s5.getD j ByteArray.empty = s at e1
              go_wp2
              all_goals (try (go_ret; exact ZPost.mk _ _))
              go_roundw
              case rel => exact ⟨j + 1, _, by omega, by go_num, rfl, by simp⟩
              case measure => simp [intOf]; omega
            clear h5
            go_wp2
            all_goals (try (go_ret; exact ZPost.mk _ _))

end Go.Proofs.Qxb6615914a
