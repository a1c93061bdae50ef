/- THE WALK. -/
import Derived.Test.Qxb6614548aFmtFacts
import Derived.Deep.DeepCutAuto
import Derived.Deep.CutRange
namespace Go.Proofs.Qxb6614548aFmt
open Go.RowKit Go.Extern.Stop Go.Stop Go.Extern
set_option linter.unusedSimpArgs false
set_option linter.unusedVariables false

attribute [local go_sem] Tryf.call29 Tryf.guard Tryf.fmt0 Tryf.fmt0r Tryf.op3_100 Tryf.op9_115

abbrev tail9 : ByteArray := ⟨#[59, 32, 115, 107, 105, 112, 112, 101, 100]⟩

theorem Tryf.meth55 (v : Value) (w : World) : (method 204 55 v "Error").run Tryf.prog w = .ok (64, v) w := by kernel_rfl

set_option maxHeartbeats 400000 in
theorem skip_low (key m : ByteArray) (n : Int) (b : Nat) (w : World) (hb : w.cell? ⟨b, 0, none⟩ = some (.string m)) (hm : m.size ≤ 1048576) (hn : n ≤ 1) :
    Calls Tryf.prog 23 #[.string key, .int .i64 n, .iface 55 (.pointer (some ⟨b, 0, none⟩))] w fun e w' => e = .returned (.string (m ++ tail9)) ∧ w = w' := by
  have hmeth := Tryf.meth55
  go_enter Tryf.func23, Tryf.ntmps23
  go_wp2_with (go_at_call 64; refine (error_any m b _ hb).mono ?_; rintro e w2 ⟨rfl, rfl⟩)
  go_ret
  exact ⟨rfl, rfl⟩

set_option maxHeartbeats 400000 in
theorem skip_high (F : Interp) (key m T : ByteArray) (n : Int) (b : Nat) (w : World) (hF : F.answers w.tape) (hb : w.cell? ⟨b, 0, none⟩ = some (.string m)) (hm : m.size ≤ 1048576) (hn : 1 < n) (hn2 : n ≤ 9223372036854775807)
    (hT : FmtStop.textOf (F "fmt.Sprintf" (fReading (n - 1) key.data.toList) 0) = T) (hTs : T.size ≤ 4194304) :
    Calls Tryf.prog 23 #[.string key, .int .i64 n, .iface 55 (.pointer (some ⟨b, 0, none⟩))] w fun e w' => e = .returned (.string (m ++ tail9 ++ T)) ∧ w' = (w.alloc (.cells #[.iface 3 (.int .i64 (n - 1)), .iface 9 (.string key)] 20)).drew := by
  have hmeth := Tryf.meth55
  have hF' := answers_open hF
  have hsz : (m ++ tail9).size = m.size + 9 := by rw [ByteArray.size_append]; rfl
  unfold fReading at hT
  go_enter Tryf.func23, Tryf.ntmps23
  go_wp2_with (go_at_call 64; refine (error_any m b _ hb).mono ?_; rintro e w2 ⟨rfl, rfl⟩)
  go_ret
  exact ⟨rfl, rfl⟩

theorem zz_low (key m : ByteArray) (n : Int) (w : World) (hm : m.size ≤ 1048576) (hn : n ≤ 1) :
    Calls Tryf.prog 8 #[.string key, .int .i64 n, .string m] w fun e w' => e = .returned (.string (m ++ tail9)) ∧ Below w.heap.size w w' := by
  go_enter Tryf.func8, Tryf.ntmps8
  go_wp2_with (first | (go_at_call 24; refine (new_any m _).mono ?_; rintro e w2 ⟨rfl, rfl⟩) | (go_at_call 23; refine (skip_low key m n w.heap.size _ (by simp) hm hn).mono ?_; rintro e w2 ⟨rfl, rfl⟩))
  go_ret
  exact ⟨rfl, (Below.refl _ w).alloc (Nat.le_refl _) _⟩

theorem zz_high (F : Interp) (key m T : ByteArray) (n : Int) (w : World) (hF : F.answers w.tape) (hm : m.size ≤ 1048576) (hn : 1 < n) (hn2 : n ≤ 9223372036854775807)
    (hT : FmtStop.textOf (F "fmt.Sprintf" (fReading (n - 1) key.data.toList) 0) = T) (hTs : T.size ≤ 4194304) :
    Calls Tryf.prog 8 #[.string key, .int .i64 n, .string m] w fun e w' => e = .returned (.string (m ++ tail9 ++ T)) ∧ Below w.heap.size w w' := by
  have HT : Hid (FmtStop.textOf (F "fmt.Sprintf" (fReading (n - 1) key.data.toList) 0) = T) := hT
  clear hT
  go_enter Tryf.func8, Tryf.ntmps8
  go_wp2_with (first | (go_at_call 24; refine (new_any m _).mono ?_; rintro e w2 ⟨rfl, rfl⟩) | (go_at_call 23; refine (skip_high F key m T n w.heap.size (w.alloc (.cells #[.string m] 57)) hF (by simp) hm hn hn2 HT.out hTs).mono ?_; rintro e w2 ⟨rfl, rfl⟩))
  go_ret
  exact ⟨rfl, (((Below.refl _ w).alloc (Nat.le_refl _) _).alloc (by simp) _).drew⟩

set_option maxHeartbeats 400000 in
/-- zzHasPrefix: p ++ T begins with p. -/
theorem starts_yes (p T : ByteArray) (w : World) (hs : (p ++ T).size ≤ 8388608) :
    Calls Tryf.prog 9 #[.string (p ++ T), .string p] w fun e w' => e = .returned (.bool true) ∧ Below w.heap.size w w' := by
  have hsz : (p ++ T).size = p.size + T.size := ByteArray.size_append
  obtain ⟨s, hse⟩ : ∃ s, s = p ++ T := ⟨_, rfl⟩
  rw [← hse] at hs hsz ⊢
  go_enter Tryf.func9, Tryf.ntmps9
  go_wp2
  go_loopw [5] (fun i wr => ∃ j : Nat, j ≤ p.size ∧ i = .int .i64 j ∧ Below w.heap.size w wr) (fun i _ => p.size - (intOf i).toNat)
  case atStart => exact ⟨0, Nat.zero_le _, rfl, Below.refl _ _⟩
  case round =>
    obtain ⟨j, hj, rfl, hbe⟩ := hrel
    by_cases hlt : j < p.size
    · have hlt2 : j < s.size := by omega
      go_wp2
      go_region
      all_goals (try go_wp2)
      go_roundw
      case rel => exact ⟨j + 1, by omega, by go_num, hbe.drew⟩
      case measure => simp [intOf]; omega
    · go_wp2
      go_ret
      exact ⟨rfl, hbe⟩

theorem starts_self (p : ByteArray) (w : World) (hs : p.size ≤ 8388608) :
    Calls Tryf.prog 9 #[.string p, .string p] w fun e w' => e = .returned (.bool true) ∧ Below w.heap.size w w' := by
  have h := starts_yes p ByteArray.empty w (by rw [ByteArray.append_empty]; exact hs)
  rw [ByteArray.append_empty] at h
  exact h

theorem below_trans {a b c : World} (h : Below a.heap.size a b) (k : Below b.heap.size b c) : Below a.heap.size a c :=
  ⟨k.os.trans h.os, k.tape.trans h.tape, k.output.trans h.output, Nat.le_trans h.size k.size, fun i hi => (k.block i (Nat.lt_of_lt_of_le hi h.size)).trans (h.block i hi)⟩

/-- Some answer; the world as it was. -/
def ZPost (w : World) (e : Ending) (w' : World) : Prop := (∃ t : Bool, e = .returned (.bool t)) ∧ w = w'
theorem ZPost.mk (w : World) (t : Bool) : ZPost w (.returned (.bool t)) w := ⟨⟨t, rfl⟩, rfl⟩
set_option maxHeartbeats 400000 in
theorem bytes_any (key other m : ByteArray) (n : Int) (w : World) : Calls Tryf.prog 7 #[.string key, .int .i64 n, .string other, .string m] w (ZPost w) := by
  go_enter Tryf.func7, Tryf.ntmps7
  go_wp2
  all_goals (go_ret; exact ZPost.mk _ _)

def MPost (w : World) (e : Ending) (w' : World) : Prop := e = .returned (.bool true) ∧ Below w.heap.size w w'

set_option maxHeartbeats 1000000 in
theorem main_low (key other m : ByteArray) (n : Int) (w : World) (hk : key.size ≤ maxLen) (ho : other.size ≤ maxLen) (hm : m.size ≤ maxLen) (hn : n ≤ 1) :
    Calls Tryf.prog 3 #[.string key, .int .i64 n, .string other, .string m] w (MPost w) := by
  unfold maxLen at hk ho hm
  go_enter Tryf.func3, Tryf.ntmps3
  go_upto_region 5 with (first | (go_at_call 7; refine (bytes_any key other m n _).mono ?_; rintro e w2 ⟨⟨t, rfl⟩, rfl⟩))
  all_goals (try (go_ret; exact ⟨rfl, Below.refl _ _⟩))
  have hm' : m.size ≤ 1048576 := by omega
  have hsz : (m ++ tail9).size = m.size + 9 := by rw [ByteArray.size_append]; rfl
  go_wp2_with fail
  refine (zz_low other m 1 _ hm' (by omega)).mono ?_
  rintro e w2 ⟨rfl, hb2⟩
  go_wp2_with fail
  refine (zz_low key m n _ hm' hn).mono ?_
  rintro e w3 ⟨rfl, hb3⟩
  go_wp2_with fail
  refine (starts_self (m ++ tail9) _ (by omega)).mono ?_
  rintro e w4 ⟨rfl, hb4⟩
  have HB : Hid (Below w.heap.size w w4) := below_trans (below_trans hb2 hb3) hb4
  clear hb2 hb3 hb4
  go_wp2
  all_goals (go_ret; exact ⟨rfl, HB.out⟩)

set_option maxHeartbeats 1000000 in
theorem main_high (F : Interp) (key other m T : ByteArray) (n : Int) (w : World) (hF : F.answers w.tape) (hk : key.size ≤ maxLen) (ho : other.size ≤ maxLen) (hm : m.size ≤ maxLen) (hn : 1 < n) (hn2 : n ≤ 9223372036854775807)
    (hT : FmtStop.textOf (F "fmt.Sprintf" (fReading (n - 1) key.data.toList) 0) = T) (hTs : key.size ≤ 1048576 → T.size ≤ 4194304) :
    Calls Tryf.prog 3 #[.string key, .int .i64 n, .string other, .string m] w (MPost w) := by
  unfold maxLen at hk ho hm
  have HT : Hid (FmtStop.textOf (F "fmt.Sprintf" (fReading (n - 1) key.data.toList) 0) = T) := hT
  have HS : Hid (key.size ≤ 1048576 → T.size ≤ 4194304) := hTs
  clear hT hTs
  go_enter Tryf.func3, Tryf.ntmps3
  go_upto_region 5 with (first | (go_at_call 7; refine (bytes_any key other m n _).mono ?_; rintro e w2 ⟨⟨t, rfl⟩, rfl⟩))
  all_goals (try (go_ret; exact ⟨rfl, Below.refl _ _⟩))
  have hm' : m.size ≤ 1048576 := by omega
  have hts : T.size ≤ 4194304 := HS.out (by omega)
  have hsz : (m ++ tail9).size = m.size + 9 := by rw [ByteArray.size_append]; rfl
  have hsz2 : (m ++ tail9 ++ T).size = (m ++ tail9).size + T.size := ByteArray.size_append
  go_wp2_with fail
  refine (zz_low other m 1 _ hm' (by omega)).mono ?_
  rintro e w2 ⟨rfl, hb2⟩
  go_wp2_with fail
  refine (zz_high F key m T n w2 (by rw [hb2.tape]; exact hF) hm' hn hn2 HT.out hts).mono ?_
  rintro e w3 ⟨rfl, hb3⟩
  go_wp2_with fail
  refine (starts_yes (m ++ tail9) T _ (by omega)).mono ?_
  rintro e w4 ⟨rfl, hb4⟩
  have HB : Hid (Below w.heap.size w w4) := below_trans (below_trans hb2 hb3) hb4
  clear hb2 hb3 hb4
  go_wp2
  all_goals (go_ret; exact ⟨rfl, HB.out⟩)
end Go.Proofs.Qxb6614548aFmt
