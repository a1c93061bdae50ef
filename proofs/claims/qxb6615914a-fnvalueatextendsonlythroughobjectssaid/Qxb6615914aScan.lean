/- zzb1Last AND zzb1Distinct. -/
import Derived.Test.Qxb6615914aPlain
namespace Go.Proofs.Qxb6615914a
open Go.RowKit
set_option linter.unusedSimpArgs false
set_option linter.unusedVariables false

theorem str_inj {s k : Str} (h : s.toList = k.toList) : s = k := by
  rw [ByteArray.toList_eq, ByteArray.toList_eq] at h
  cases s; cases k
  simpa using h
theorem str_ne {s k : Str} (h : s ≠ k) : (s.toList == k.toList) = false := by
  cases hb : (s.toList == k.toList) with
  | false => rfl
  | true => exact absurd (str_inj (by simpa using hb)) h

/-- The last place of k; the world as it was. -/
def LPost (ss : List Str) (k : Str) (w : World) (e : Ending) (w' : World) : Prop := (∃ i : Int, e = .returned (.int .i64 i) ∧ IsLast ss k i) ∧ w = w'
theorem LPost.mk {ss : List Str} {k : Str} {w : World} {i : Int} (h : IsLast ss k i) : LPost ss k w (.returned (.int .i64 i)) w := ⟨⟨i, rfl, h⟩, rfl⟩
/-- The number of distinct keys; the world as it was. -/
def DPost (ss : List Str) (w : World) (e : Ending) (w' : World) : Prop := e = .returned (.int .i64 (dist ss)) ∧ w = w'

set_option maxHeartbeats 400000 in
theorem last_any (b : Nat) (a : Option Addr) (n c : Nat) (ss : List Str) (k : Str) (w : World) (h : RdS w b a n c ss) :
    Calls Try.prog 14 #[.slice a n c, .string k] w (LPost ss k w) := by
  have hcap1 := h.cap
  have hmax1 := h.max
  have hlen := h.len
  unfold maxLen at hmax1
  go_enter Try.func14, Try.ntmps14
  go_wp2
  go_loopw [5] (fun i wr => ∃ j : Nat, j ≤ n ∧ i = .int .i64 ((j : Int) - 1) ∧ (∀ m, j ≤ m → m < n → nth ss m ≠ k) ∧ w = wr) (fun i _ => (intOf i + 1).toNat)
  case atStart => exact ⟨n, Nat.le_refl _, by go_num, fun m h1 h2 => by omega, rfl⟩
  case round =>
    obtain ⟨j, hj, rfl, hno, rfl⟩ := hrel
    by_cases h0 : 0 < j
    · obtain ⟨o, rfl, hc⟩ := h.cell (by omega)
      have e1 := hc (j - 1) (by omega)
      have HN : Hid (∀ m, j ≤ m → m < n → nth ss m ≠ k) := hno
      have HE : Hid (ss.getD (j - 1) ByteArray.empty = nth ss (j - 1)) := rfl
      clear h hc hno
      obtain ⟨q, rfl⟩ : ∃ q, j = q + 1 := ⟨j - 1, by omega⟩
      rw [Nat.add_sub_cancel] at e1 HE
      generalize ss.getD q ByteArray.empty = s at e1 HE
      by_cases hs : s = k
      · subst hs
        go_wp2
        go_ret
        exact LPost.mk (.inr ⟨q, by omega, by omega, HE.out.symm, fun m h1 h2 => HN.out m (by omega) (by omega)⟩)
      · have hne := str_ne hs
        go_wp2
        go_roundw
        case rel => exact ⟨q, by omega, by go_num, fun m h1 h2 => by
          rcases Nat.lt_or_ge q m with h3 | h3
          · exact HN.out m (by omega) h2
          · obtain rfl : m = q := by omega
            exact fun e => hs (HE.out.trans e), by simp⟩
        case measure => simp [intOf]
    · go_wp2
      go_ret
      refine LPost.mk (.inl ⟨rfl, fun hk => ?_⟩)
      obtain ⟨m, hm, e⟩ := mem_nth hk
      exact hno m (by omega) (by omega) e

theorem last_is (b : Nat) (a : Option Addr) (n c : Nat) (ss : List Str) (k : Str) (w : World) (h : Hid (RdS w b a n c ss)) :
    Calls Try.prog 14 #[.slice a n c, .string k] w (LPost ss k w) := last_any b a n c ss k w h.out

set_option maxHeartbeats 400000 in
theorem distinct_any (b : Nat) (a : Option Addr) (n c : Nat) (ss : List Str) (w : World) (h : RdS w b a n c ss) :
    Calls Try.prog 13 #[.slice a n c] w (DPost ss w) := by
  have hcap1 := h.cap
  have hmax1 := h.max
  have hlen := h.len
  unfold maxLen at hmax1
  go_enter Try.func13, Try.ntmps13
  go_wp2
  go_loopw [3, 4] (fun s i wr => ∃ (j y : Nat), j ≤ n ∧ i = .int .i64 j ∧ s = .int .i64 y ∧ Hid (y ≤ j ∧ y + dist (ss.drop j) = dist ss) ∧ w = wr) (fun _ i _ => n - (intOf i).toNat)
  case atStart => exact ⟨0, 0, Nat.zero_le _, rfl, rfl, ⟨Nat.le_refl _, by simp⟩, rfl⟩
  case round =>
    obtain ⟨j, y, hj, rfl, rfl, hy, rfl⟩ := hrel
    by_cases hlt : j < n
    · obtain ⟨o, rfl, hc⟩ := h.cell (by omega)
      have e1 := hc j hlt
      have hd := dist_drop ss j (by omega)
      have HL : Hid (∀ i : Int, IsLast ss (nth ss j) i → (i = j ↔ nth ss j ∉ ss.drop (j + 1))) := fun i hi => last_self (by omega) hi
      have HD : Hid (dist (ss.drop j) = (if memB (nth ss j) (ss.drop (j + 1)) then 0 else 1) + dist (ss.drop (j + 1))) := hd
      have HR : Hid (RdS w b (some ⟨b, o, none⟩) n c ss) := h
      clear h hc hd
      have hyj : y ≤ j := hy.out.1
      change w.cell? _ = some (.string (nth ss j)) at e1
      generalize nth ss j = s at e1 HL HD
      go_wp2_with (go_at_call 14; refine (last_is b _ n c ss _ _ HR).mono ?_; rintro e w2 ⟨⟨i, rfl, hi⟩, rfl⟩)
      · have hij : i = j := by simpa using ‹(i == (j : Int)) = true›
        have hn := (HL.out i hi).1 hij
        have hd := HD.out
        rw [if_neg (by simp [memB_no hn])] at hd
        go_roundw
        case rel => exact ⟨j + 1, y + 1, by omega, by go_num, by go_num, ⟨by omega, by have := hy.out.2; omega⟩, by simp⟩
        case measure => simp [intOf]; omega
      · have hij : ¬ i = j := by simpa using ‹(i == (j : Int)) = false›
        have hn : s ∈ ss.drop (j + 1) := Classical.byContradiction fun hm => hij ((HL.out i hi).2 hm)
        have hd := HD.out
        rw [if_pos (memB_iff.2 hn)] at hd
        go_roundw
        case rel => exact ⟨j + 1, y, by omega, by go_num, rfl, ⟨by omega, by have := hy.out.2; omega⟩, by simp⟩
        case measure => simp [intOf]; omega
    · obtain rfl : j = n := by omega
      go_wp2
      go_ret
      have := hy.out.2
      rw [← hlen, List.drop_length] at this
      exact ⟨by rw [← this]; simp [dist], rfl⟩
end Go.Proofs.Qxb6615914a
