/- WHAT THE LAWS' ARGUMENTS READ AS; the plain law on big-endian lengths. -/
import Derived.Test.Qxb6615713aVector
import Derived.OpenShut
namespace Go.Proofs.Qxb6615713a
open Go.RowKit Go.WideShapes
set_option linter.unusedSimpArgs false
set_option linter.unusedVariables false

/-- WHAT THE WALK IS TOLD OF A SLICE OF INTEGERS THAT CAME IN (the shell's own word). -/
def IsRow (k : IntKind) (w : World) (a : Option Addr) (len cap : Nat) (zs : List Int) : Prop :=
  (a = none ∧ len = 0 ∧ cap = 0 ∧ zs = []) ∨
  ∃ x, a = some x ∧ len ≤ cap ∧ cap ≤ maxLen ∧ zs.length = cap ∧ (∀ i, i < zs.length → w.cell? (x.add i) = some (.int k (zs.getD i 0))) ∧ ∀ n ∈ zs, (Lit.int k n).wf = true

theorem IsRow.rd {w : World} {a : Option Addr} {len cap : Nat} {zs : List Int} (h : IsRow .u8 w a len cap zs) : ∃ b, Rd w b a len cap (zs.take len) ∧ (0 < len → b < w.heap.size) := by
  rcases h with ⟨rfl, rfl, rfl, rfl⟩ | ⟨x, rfl, hlc, hm, hz, hcell, hw⟩
  · exact ⟨0, Rd.empty _ _, fun h => absurd h (by omega)⟩
  · by_cases h0 : 0 < zs.length
    · obtain ⟨b, o, rfl, hc⟩ := ints_at hcell h0
      have R : Rd w b (some ⟨b, o, none⟩) len cap (zs.take len) := by
        refine ⟨by simp; omega, hlc, hm, fun e => by simp at e, fun _ => ⟨o, rfl, fun j hj => ?_⟩, fun y hy => bounds_u8 (hw y (List.mem_of_mem_take hy))⟩
        rw [hc j (by omega)]
        simp [List.getD, List.getElem?_take, hj]
      exact ⟨b, R, fun hn => R.lt hn⟩
    · refine ⟨0, ⟨by simp; omega, hlc, hm, fun e => by simp at e, fun h => absurd h (by omega), fun y hy => bounds_u8 (hw y (List.mem_of_mem_take hy))⟩, fun h => absurd h (by omega)⟩

/-- An empty slice without room, wherever it points. -/
theorem Rd.zero (w : World) (b : Nat) (a : Option Addr) : Rd w b a 0 0 [] :=
  ⟨rfl, Nat.le_refl _, Nat.zero_le _, fun _ => rfl, fun h => absurd h (by omega), fun _ h => by cases h⟩

theorem beV_cons (x : Int) (xs : List Int) : beV (x :: xs) = x * 256 ^ xs.length + beV xs := by
  have gen : ∀ (ys : List Int) (v : Int), ys.foldl (fun v c => v * 256 + c) v = v * 256 ^ ys.length + beV ys := by
    intro ys
    induction ys with
    | nil => intro v; simp [beV]
    | cons y ys ih =>
      intro v
      have e : beV (y :: ys) = y * 256 ^ ys.length + beV ys := by
        show ys.foldl _ (0 * 256 + y) = _
        rw [ih]; simp
      rw [e]
      show ys.foldl _ (v * 256 + y) = _
      rw [ih, List.length_cons, Int.pow_succ, Int.add_mul]
      rw [show v * (256 ^ ys.length * 256) = v * 256 * 256 ^ ys.length by rw [Int.mul_comm ((256 : Int) ^ ys.length) 256, Int.mul_assoc]]
      omega
  show xs.foldl _ (0 * 256 + x) = _
  rw [gen]; simp

/-- The low bytes of a number do not see what lies above them. -/
theorem be_add (k : Nat) (n q : Int) : be k (q * 256 ^ k + n) = be k n := by
  induction k generalizing q with
  | zero => rfl
  | succ k ih =>
    have e : q * 256 ^ (k + 1) + n = (q * 256) * 256 ^ k + n := by
      rw [Int.pow_succ, Int.mul_comm ((256 : Int) ^ k) 256, Int.mul_assoc]
    have hp : (0 : Int) < 256 ^ k := Int.pow_pos (by omega)
    simp only [be]
    rw [e, ih]
    congr 1
    rw [Int.add_comm, Int.add_mul_ediv_right _ _ (by omega)]
    omega

/-- Writing the value of a row of bytes gives the row back. -/
theorem be_beV : ∀ (xs : List Int), (∀ x ∈ xs, 0 ≤ x ∧ x ≤ 255) → be xs.length (beV xs) = xs := by
  intro xs
  induction xs with
  | nil => intro _; rfl
  | cons x xs ih =>
    intro hw
    have hx := hw x List.mem_cons_self
    have ht := ih (fun y hy => hw y (List.mem_cons_of_mem _ hy))
    have hb := beV_bound xs (fun y hy => hw y (List.mem_cons_of_mem _ hy))
    rw [beV_cons]
    show (_ / 256 ^ xs.length % 256) :: be xs.length _ = _
    rw [be_add, ht, Int.add_comm, Int.add_mul_ediv_right _ _ (by omega), Int.ediv_eq_zero_of_lt hb.1 hb.2]
    congr 1
    omega

/-- Reading back the length that was written. -/
theorem beV_be : ∀ (k : Nat) (n : Int), 0 ≤ n → n < 256 ^ k → beV (be k n) = n := by
  intro k
  induction k with
  | zero => intro n h0 h1; simp at h1; simp [be, beV]; omega
  | succ k ih =>
    intro n h0 h1
    have hp : (0 : Int) < 256 ^ k := Int.pow_pos (by omega)
    rw [Int.pow_succ] at h1
    have e1 := Int.mul_ediv_add_emod n (256 ^ k)
    have e2 := Int.emod_nonneg n (show (256 : Int) ^ k ≠ 0 by omega)
    have e3 := Int.emod_lt_of_pos n hp
    have hq : n / 256 ^ k < 256 := Int.ediv_lt_of_lt_mul hp (by rw [Int.mul_comm]; exact h1)
    have hq0 : 0 ≤ n / 256 ^ k := Int.ediv_nonneg h0 (by omega)
    have hb : be k n = be k (n % 256 ^ k) := by
      have := be_add k (n % 256 ^ k) (n / 256 ^ k)
      rw [Int.mul_comm, e1] at this
      exact this
    show beV ((n / 256 ^ k % 256) :: be k n) = n
    rw [beV_cons, be_length, hb, ih _ e2 e3, Int.emod_eq_of_lt hq0 hq, Int.mul_comm]
    omega

set_option maxHeartbeats 400000 in
theorem zzb10_no (a : Option Addr) (n c : Nat) (f : Bool) (k : Int) (w : World) (h : 1048576 < n) :
    Calls Try.prog 10 #[.slice a n c, .bool f, .int .i64 k] w fun e w' => e = .returned (.bool false) ∧ w' = w := by
  have h' : (1048576 : Int) < n := by omega
  go_enter Try.func10, Try.ntmps10
  go_wp2
  go_ret
  exact ⟨rfl, rfl⟩

set_option maxHeartbeats 400000 in
theorem zzb10_yes (a : Option Addr) (n c : Nat) (f : Bool) (k : Int) (w : World) (h : n ≤ 1048576) :
    Calls Try.prog 10 #[.slice a n c, .bool f, .int .i64 k] w fun e w' => e = .returned (.bool true) ∧ w' = w := by
  have h' : ¬ (1048576 : Int) < n := by omega
  go_enter Try.func10, Try.ntmps10
  go_wp2
  go_ret
  exact ⟨rfl, rfl⟩
end Go.Proofs.Qxb6615713a
