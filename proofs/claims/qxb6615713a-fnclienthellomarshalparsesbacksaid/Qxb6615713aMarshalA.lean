/- THE WALKS of Marshal's closures, first part: extension, the rows of u16s, the server's name. -/
import Derived.Test.Qxb6615713aEnc
namespace Go.Proofs.Qxb6615713a
open Go.RowKit
set_option linter.unusedSimpArgs false
set_option linter.unusedVariables false

/-- The box N of Marshal's receiver leads to the struct q. -/
structure Env (w : World) (p N q : Nat) (m : CH) : Prop where
  np : N < p
  box : w.heap[N]? = some (.cells #[.pointer (some ⟨q, 0, none⟩)] 47 (0, 0))
  hello : HelloAt w p q m
theorem Env.below {w w' : World} {p N q : Nat} {m : CH} (h : Env w p N q m) (hb : Below p w w') : Env w' p N q m := ⟨h.np, (hb.block N h.np).trans h.box, h.hello.below hb⟩

/-- The writer's buffer lies above the writer. -/
def Above (p : Nat) (v : Value) : Prop := ∀ g, v.ownBlock = some g → p ≤ g
theorem WFr.low {p : Nat} {v v' : Value} {w w' : World} (h : WFr p v v' w w') (hp : p < w.heap.size) (hv : Above p v) : Below p w w' := h.below (by omega) (Nat.le_refl _) hv
theorem WFr.above {p : Nat} {v v' : Value} {w w' : World} (h : WFr p v v' w w') (hp : p < w.heap.size) (hv : Above p v) : Above p v' := fun g hg => by
  rcases h.own g hg with h' | h'
  · exact hv g h'
  · omega

set_option maxHeartbeats 400000 in
theorem wextension (p fno : Nat) (t : Int) (caps : Array Value) (v : Value) (xs ys : List Int) (w : World) (hen : Ent fno) (h : WrAt w p v xs) (ht : 0 ≤ t ∧ t ≤ 65535) (hlen : (ys.length : Int) < 65536) (hsz : xs.length + ys.length ≤ 1099511626000)
    (hfill : ∀ w1 v1 zs, WrAt w1 p v1 zs → WFr p v v1 w w1 → zs.length ≤ xs.length + 4 → Calls Try.prog fno (#[.pointer (some ⟨p, 0, none⟩)] ++ caps) w1 fun e w2 => e = .returned (.tuple #[]) ∧ ∃ v2, WrAt w2 p v2 (zs ++ ys) ∧ WFr p v1 v2 w1 w2) :
    Calls Try.prog 53 #[.pointer (some ⟨p, 0, none⟩), .int .u16 t, .func (.func fno) #[] caps] w fun e w' => e = .returned (.tuple #[]) ∧ ∃ v', WrAt w' p v' (xs ++ ext t ys) ∧ WFr p v v' w w' := by
  have HF : Hid _ := hfill
  clear hfill
  go_enter Try.func53, Try.ntmps53
  go_wp2_with fail
  refine (wu16 p v xs t _ h ht (by omega)).mono ?_
  rintro e w1 ⟨rfl, v1, h1, hw1⟩
  go_wp2_with fail
  refine (wvector p 2 fno caps v1 _ ys _ hen h1 (by omega) (by simpa using hlen) (by simp; omega) ?_).mono ?_
  · intro w2 v2 h2 hw2
    refine (HF.out w2 v2 _ h2 (hw1.trans hw2) (by simp)).mono ?_
    rintro e w3 ⟨rfl, v3, h3, hw3⟩
    exact ⟨rfl, v3, h3, hw3⟩
  · rintro e w2 ⟨rfl, v2, h2, hw2⟩
    go_wp2
    go_end0
    refine ⟨rfl, v2, ?_, hw1.trans hw2⟩
    have e1 : xs ++ ext t ys = xs ++ [t / 256, t % 256] ++ be 2 ys.length ++ ys := by simp [ext, vec]
    rw [e1]
    exact h2

theorem take_snoc16 {xs : List Int} {j : Nat} (hj : j < xs.length) : u16s (xs.take (j + 1)) = u16s (xs.take j) ++ [xs.getD j 0 / 256, xs.getD j 0 % 256] := by rw [take_snoc hj, u16s_snoc]
theorem getD_bound16 {xs : List Int} (h : ∀ x ∈ xs, 0 ≤ x ∧ x ≤ 65535) (j : Nat) : 0 ≤ xs.getD j 0 ∧ xs.getD j 0 ≤ 65535 := by
  by_cases hj : j < xs.length
  · have := h (xs[j]) (List.getElem_mem hj)
    simpa [List.getD, hj] using this
  · simp [List.getD, hj]

set_option maxHeartbeats 800000 in
theorem fill51 (p N q : Nat) (m : CH) (v : Value) (xs : List Int) (w : World) (hE : Env w p N q m) (h : WrAt w p v xs) (hv : Above p v) (hsz : xs.length + 2 * m.cs.length ≤ 1099511626000) :
    Calls Try.prog 51 #[.pointer (some ⟨p, 0, none⟩), .pointer (some ⟨N, 0, none⟩)] w fun e w' => e = .returned (.tuple #[]) ∧ ∃ v', WrAt w' p v' (xs ++ u16s m.cs) ∧ WFr p v v' w w' := by
  have cN := cell_of_one hE.box
  obtain ⟨a, n, c, b, cq, hd, hb⟩ := hE.hello.cs
  have hlen := hd.len
  have hcap := hd.cap
  have hmax := hd.max
  unfold maxLen at hmax
  have hplt := h.lt
  generalize m.cs = ys at *
  by_cases hn : n = 0
  · obtain rfl : ys = [] := List.length_eq_zero_iff.1 (hlen.trans hn)
    subst hn
    go_enter Try.func51, Try.ntmps51
    go_wp2_with fail
    refine wp_loop_rounds 1 ?_
    rw [rounds_succ]
    go_wp2
    go_end0
    exact ⟨rfl, v, by simpa [u16s] using h, WFr.refl _ _ _⟩
  · obtain ⟨o, rfl, hc⟩ := hd.cell (by omega)
    have hbp := hb (by omega)
    have hwf := hd.wf
    have H0 : Hid (WrAt w p v xs) := h
    have HV : Hid (Above p v) := hv
    clear h hv hd hb hE
    go_enter Try.func51, Try.ntmps51
    go_wp2_with fail
    go_loopw [10] (fun i wr => ∃ j : Nat, j ≤ n ∧ i = .int .i64 j ∧ ∃ v1, WrAt wr p v1 (xs ++ u16s (ys.take j)) ∧ WFr p v v1 w wr) (fun i _ => n - (intOf i).toNat)
    case atStart => exact ⟨0, Nat.zero_le _, rfl, v, by simpa [u16s] using H0.out, WFr.refl _ _ _⟩
    case round =>
      obtain ⟨j, hj, rfl, v1, h1, hw1⟩ := hrel
      by_cases hlt : j < n
      · have hcj : wr.cell? ⟨b, o + j, none⟩ = some (.int .u16 (ys.getD j 0)) := ((hw1.low hplt HV.out).cell (p := ⟨b, o + j, none⟩) hbp).trans (hc j hlt)
        have hg := getD_bound16 hwf j
        have hs : Hid (u16s (ys.take (j + 1)) = u16s (ys.take j) ++ [ys.getD j 0 / 256, ys.getD j 0 % 256]) := take_snoc16 (by omega)
        have hl : Hid ((xs ++ u16s (ys.take j)).length ≤ 1099511627774) := by show _ ≤ _; simp [u16s_length]; omega
        generalize ys.getD j 0 = x at hcj hg hs
        go_wp2_with fail
        refine (wu16 p v1 _ x _ h1 hg hl.out).mono ?_
        rintro e w2 ⟨rfl, v2, h2, hw2⟩
        go_wp2_with fail
        go_roundw
        case rel => exact ⟨j + 1, by omega, by go_num, v2, by rw [hs.out, ← List.append_assoc]; exact h2, hw1.trans hw2⟩
        case measure => simp [intOf]; omega
      · obtain rfl : j = n := by omega
        go_wp2
        go_end0
        exact ⟨rfl, v1, by rw [List.take_of_length_le (by omega)] at h1; exact h1, hw1⟩

set_option maxHeartbeats 800000 in
theorem fill58 (p N q : Nat) (m : CH) (v : Value) (xs : List Int) (w : World) (hE : Env w p N q m) (h : WrAt w p v xs) (hv : Above p v) (hsz : xs.length + 2 * m.sv.length ≤ 1099511626000) :
    Calls Try.prog 58 #[.pointer (some ⟨p, 0, none⟩), .pointer (some ⟨N, 0, none⟩)] w fun e w' => e = .returned (.tuple #[]) ∧ ∃ v', WrAt w' p v' (xs ++ u16s m.sv) ∧ WFr p v v' w w' := by
  have cN := cell_of_one hE.box
  obtain ⟨a, n, c, b, cq, hd, hb⟩ := hE.hello.sv
  have hlen := hd.len
  have hcap := hd.cap
  have hmax := hd.max
  unfold maxLen at hmax
  have hplt := h.lt
  generalize m.sv = ys at *
  by_cases hn : n = 0
  · obtain rfl : ys = [] := List.length_eq_zero_iff.1 (hlen.trans hn)
    subst hn
    go_enter Try.func58, Try.ntmps58
    go_wp2_with fail
    refine wp_loop_rounds 1 ?_
    rw [rounds_succ]
    go_wp2
    go_end0
    exact ⟨rfl, v, by simpa [u16s] using h, WFr.refl _ _ _⟩
  · obtain ⟨o, rfl, hc⟩ := hd.cell (by omega)
    have hbp := hb (by omega)
    have hwf := hd.wf
    have H0 : Hid (WrAt w p v xs) := h
    have HV : Hid (Above p v) := hv
    clear h hv hd hb hE
    go_enter Try.func58, Try.ntmps58
    go_wp2_with fail
    go_loopw [10] (fun i wr => ∃ j : Nat, j ≤ n ∧ i = .int .i64 j ∧ ∃ v1, WrAt wr p v1 (xs ++ u16s (ys.take j)) ∧ WFr p v v1 w wr) (fun i _ => n - (intOf i).toNat)
    case atStart => exact ⟨0, Nat.zero_le _, rfl, v, by simpa [u16s] using H0.out, WFr.refl _ _ _⟩
    case round =>
      obtain ⟨j, hj, rfl, v1, h1, hw1⟩ := hrel
      by_cases hlt : j < n
      · have hcj : wr.cell? ⟨b, o + j, none⟩ = some (.int .u16 (ys.getD j 0)) := ((hw1.low hplt HV.out).cell (p := ⟨b, o + j, none⟩) hbp).trans (hc j hlt)
        have hg := getD_bound16 hwf j
        have hs : Hid (u16s (ys.take (j + 1)) = u16s (ys.take j) ++ [ys.getD j 0 / 256, ys.getD j 0 % 256]) := take_snoc16 (by omega)
        have hl : Hid ((xs ++ u16s (ys.take j)).length ≤ 1099511627774) := by show _ ≤ _; simp [u16s_length]; omega
        generalize ys.getD j 0 = x at hcj hg hs
        go_wp2_with fail
        refine (wu16 p v1 _ x _ h1 hg hl.out).mono ?_
        rintro e w2 ⟨rfl, v2, h2, hw2⟩
        go_wp2_with fail
        go_roundw
        case rel => exact ⟨j + 1, by omega, by go_num, v2, by rw [hs.out, ← List.append_assoc]; exact h2, hw1.trans hw2⟩
        case measure => simp [intOf]; omega
      · obtain rfl : j = n := by omega
        go_wp2
        go_end0
        exact ⟨rfl, v1, by rw [List.take_of_length_le (by omega)] at h1; exact h1, hw1⟩

set_option maxHeartbeats 800000 in
theorem fill60 (p N q : Nat) (m : CH) (v : Value) (xs : List Int) (w : World) (hE : Env w p N q m) (h : WrAt w p v xs) (hv : Above p v) (hsz : xs.length + 2 * m.sg.length ≤ 1099511626000) :
    Calls Try.prog 60 #[.pointer (some ⟨p, 0, none⟩), .pointer (some ⟨N, 0, none⟩)] w fun e w' => e = .returned (.tuple #[]) ∧ ∃ v', WrAt w' p v' (xs ++ u16s m.sg) ∧ WFr p v v' w w' := by
  have cN := cell_of_one hE.box
  obtain ⟨a, n, c, b, cq, hd, hb⟩ := hE.hello.sg
  have hlen := hd.len
  have hcap := hd.cap
  have hmax := hd.max
  unfold maxLen at hmax
  have hplt := h.lt
  generalize m.sg = ys at *
  by_cases hn : n = 0
  · obtain rfl : ys = [] := List.length_eq_zero_iff.1 (hlen.trans hn)
    subst hn
    go_enter Try.func60, Try.ntmps60
    go_wp2_with fail
    refine wp_loop_rounds 1 ?_
    rw [rounds_succ]
    go_wp2
    go_end0
    exact ⟨rfl, v, by simpa [u16s] using h, WFr.refl _ _ _⟩
  · obtain ⟨o, rfl, hc⟩ := hd.cell (by omega)
    have hbp := hb (by omega)
    have hwf := hd.wf
    have H0 : Hid (WrAt w p v xs) := h
    have HV : Hid (Above p v) := hv
    clear h hv hd hb hE
    go_enter Try.func60, Try.ntmps60
    go_wp2_with fail
    go_loopw [10] (fun i wr => ∃ j : Nat, j ≤ n ∧ i = .int .i64 j ∧ ∃ v1, WrAt wr p v1 (xs ++ u16s (ys.take j)) ∧ WFr p v v1 w wr) (fun i _ => n - (intOf i).toNat)
    case atStart => exact ⟨0, Nat.zero_le _, rfl, v, by simpa [u16s] using H0.out, WFr.refl _ _ _⟩
    case round =>
      obtain ⟨j, hj, rfl, v1, h1, hw1⟩ := hrel
      by_cases hlt : j < n
      · have hcj : wr.cell? ⟨b, o + j, none⟩ = some (.int .u16 (ys.getD j 0)) := ((hw1.low hplt HV.out).cell (p := ⟨b, o + j, none⟩) hbp).trans (hc j hlt)
        have hg := getD_bound16 hwf j
        have hs : Hid (u16s (ys.take (j + 1)) = u16s (ys.take j) ++ [ys.getD j 0 / 256, ys.getD j 0 % 256]) := take_snoc16 (by omega)
        have hl : Hid ((xs ++ u16s (ys.take j)).length ≤ 1099511627774) := by show _ ≤ _; simp [u16s_length]; omega
        generalize ys.getD j 0 = x at hcj hg hs
        go_wp2_with fail
        refine (wu16 p v1 _ x _ h1 hg hl.out).mono ?_
        rintro e w2 ⟨rfl, v2, h2, hw2⟩
        go_wp2_with fail
        go_roundw
        case rel => exact ⟨j + 1, by omega, by go_num, v2, by rw [hs.out, ← List.append_assoc]; exact h2, hw1.trans hw2⟩
        case measure => simp [intOf]; omega
      · obtain rfl : j = n := by omega
        go_wp2
        go_end0
        exact ⟨rfl, v1, by rw [List.take_of_length_le (by omega)] at h1; exact h1, hw1⟩

set_option maxHeartbeats 800000 in
theorem fill62 (p N q : Nat) (m : CH) (v : Value) (xs : List Int) (w : World) (hE : Env w p N q m) (h : WrAt w p v xs) (hv : Above p v) (hsz : xs.length + 2 * m.ss.length ≤ 1099511626000) :
    Calls Try.prog 62 #[.pointer (some ⟨p, 0, none⟩), .pointer (some ⟨N, 0, none⟩)] w fun e w' => e = .returned (.tuple #[]) ∧ ∃ v', WrAt w' p v' (xs ++ u16s m.ss) ∧ WFr p v v' w w' := by
  have cN := cell_of_one hE.box
  obtain ⟨a, n, c, b, cq, hd, hb⟩ := hE.hello.ss
  have hlen := hd.len
  have hcap := hd.cap
  have hmax := hd.max
  unfold maxLen at hmax
  have hplt := h.lt
  generalize m.ss = ys at *
  by_cases hn : n = 0
  · obtain rfl : ys = [] := List.length_eq_zero_iff.1 (hlen.trans hn)
    subst hn
    go_enter Try.func62, Try.ntmps62
    go_wp2_with fail
    refine wp_loop_rounds 1 ?_
    rw [rounds_succ]
    go_wp2
    go_end0
    exact ⟨rfl, v, by simpa [u16s] using h, WFr.refl _ _ _⟩
  · obtain ⟨o, rfl, hc⟩ := hd.cell (by omega)
    have hbp := hb (by omega)
    have hwf := hd.wf
    have H0 : Hid (WrAt w p v xs) := h
    have HV : Hid (Above p v) := hv
    clear h hv hd hb hE
    go_enter Try.func62, Try.ntmps62
    go_wp2_with fail
    go_loopw [10] (fun i wr => ∃ j : Nat, j ≤ n ∧ i = .int .i64 j ∧ ∃ v1, WrAt wr p v1 (xs ++ u16s (ys.take j)) ∧ WFr p v v1 w wr) (fun i _ => n - (intOf i).toNat)
    case atStart => exact ⟨0, Nat.zero_le _, rfl, v, by simpa [u16s] using H0.out, WFr.refl _ _ _⟩
    case round =>
      obtain ⟨j, hj, rfl, v1, h1, hw1⟩ := hrel
      by_cases hlt : j < n
      · have hcj : wr.cell? ⟨b, o + j, none⟩ = some (.int .u16 (ys.getD j 0)) := ((hw1.low hplt HV.out).cell (p := ⟨b, o + j, none⟩) hbp).trans (hc j hlt)
        have hg := getD_bound16 hwf j
        have hs : Hid (u16s (ys.take (j + 1)) = u16s (ys.take j) ++ [ys.getD j 0 / 256, ys.getD j 0 % 256]) := take_snoc16 (by omega)
        have hl : Hid ((xs ++ u16s (ys.take j)).length ≤ 1099511627774) := by show _ ≤ _; simp [u16s_length]; omega
        generalize ys.getD j 0 = x at hcj hg hs
        go_wp2_with fail
        refine (wu16 p v1 _ x _ h1 hg hl.out).mono ?_
        rintro e w2 ⟨rfl, v2, h2, hw2⟩
        go_wp2_with fail
        go_roundw
        case rel => exact ⟨j + 1, by omega, by go_num, v2, by rw [hs.out, ← List.append_assoc]; exact h2, hw1.trans hw2⟩
        case measure => simp [intOf]; omega
      · obtain rfl : j = n := by omega
        go_wp2
        go_end0
        exact ⟨rfl, v1, by rw [List.take_of_length_le (by omega)] at h1; exact h1, hw1⟩
end Go.Proofs.Qxb6615713a
