/- zzb1TreeModel: the same four words. -/
import Derived.Test.Qxb6615914aTree
namespace Go.Proofs.Qxb6615914a
open Go.RowKit
set_option linter.unusedSimpArgs false
set_option linter.unusedVariables false

theorem IsLast.unique {ks : List Str} {k : Str} {i i' : Int} (h : IsLast ks k i) (h' : IsLast ks k i') : i = i' := by
  rcases h with ⟨rfl, hn⟩ | ⟨j, rfl, hj, e, hm⟩ <;> rcases h' with ⟨rfl, hn'⟩ | ⟨j', rfl, hj', e', hm'⟩
  · rfl
  · exact absurd (e' ▸ nth_mem hj') hn
  · exact absurd (e ▸ nth_mem hj) hn'
  · rcases Nat.lt_trichotomy j j' with h1 | h1 | h1
    · exact absurd e' (hm j' h1 hj')
    · rw [h1]
    · exact absurd e (hm' j h1 hj)

theorem exists_last (k : Str) : ∀ ks : List Str, k ∉ ks ∨ ∃ j, j < ks.length ∧ nth ks j = k ∧ ∀ m, j < m → m < ks.length → nth ks m ≠ k
  | [] => .inl (by simp)
  | a :: ks => by
    rcases exists_last k ks with h | ⟨j, hj, e, hm⟩
    · by_cases ha : a = k
      · refine .inr ⟨0, by simp, by simpa [nth] using ha, fun m h1 h2 e => ?_⟩
        obtain ⟨q, rfl⟩ : ∃ q, m = q + 1 := ⟨m - 1, by omega⟩
        have hq : q < ks.length := by simpa using h2
        have e' : nth ks q = k := by simpa [nth] using e
        exact h (e' ▸ nth_mem hq)
      · refine .inl fun hk => ?_
        rcases List.mem_cons.1 hk with h1 | h1
        · exact ha h1.symm
        · exact h h1
    · refine .inr ⟨j + 1, by simpa using hj, by simpa [nth] using e, fun m h1 h2 => ?_⟩
      obtain ⟨q, rfl⟩ : ∃ q, m = q + 1 := ⟨m - 1, by omega⟩
      have := hm q (by omega) (by simpa using h2)
      simpa [nth] using this

theorem last_eq (b : Nat) (a : Option Addr) (n c : Nat) (ss : List Str) (k : Str) (w : World) (h : Hid (RdS w b a n c ss)) (i : Int) (hi : Hid (IsLast ss k i)) :
    Calls Try.prog 14 #[.slice a n c, .string k] w fun e w' => e = .returned (.int .i64 i) ∧ w = w' := by
  refine (last_any b a n c ss k w h.out).mono ?_
  rintro e w2 ⟨⟨i', rfl, hi'⟩, rfl⟩
  rw [hi'.unique hi.out]
  exact ⟨rfl, rfl⟩
theorem distinct_eq (b : Nat) (a : Option Addr) (n c : Nat) (ss : List Str) (w : World) (h : Hid (RdS w b a n c ss)) :
    Calls Try.prog 13 #[.slice a n c] w fun e w' => e = .returned (.int .i64 (dist ss)) ∧ w = w' := distinct_any b a n c ss w h.out

section
variable {w : World} {b0 b1 b3 b4 b5 : Nat} {a0 a1 a3 a4 a5 : Option Addr} {n0 c0 c1 n3 c3 c4 c5 : Nat} {s0 s1 s3 s4 : List ByteArray} {sn : ByteArray}

/-- The empty path. -/
theorem model_top (h0 : RdS w b0 a0 n0 c0 s0) {a1 a3 a4 : Option Addr} {n1 n4 : Nat} (hn0 : n0 ≤ 4096) :
    Calls Try.prog 8 #[.slice a0 n0 c0, .slice a1 n1 c1, .string sn, .slice a3 n3 c3, .slice a4 n4 c4, .slice a5 0 c5] w (TPost (ansOf (topN s0 sn) (dist s3) (some Pl.top)) w) := by
  have H0 : Hid (RdS w b0 a0 n0 c0 s0) := h0
  have hd : dist s0 ≤ 4096 := Nat.le_trans (dist_le s0) (by rw [h0.len]; exact hn0)
  clear h0
  rcases exists_last sn s0 with hm | ⟨j, hj, e, hm⟩
  · have HL : Hid (IsLast s0 sn (-1)) := .inl ⟨rfl, hm⟩
    have HE : Hid (topN s0 sn = dist s0 + 1) := by unfold topN; exact if_neg (by simp [memB_no hm])
    clear hm
    go_enter Try.func8, Try.ntmps8
    go_wp2_with (first | (go_at_call 13; refine (distinct_eq b0 _ _ _ s0 _ H0).mono ?_; rintro e w2 ⟨rfl, rfl⟩) | (go_at_call 14; refine (last_eq b0 _ _ _ s0 sn _ H0 _ HL).mono ?_; rintro e w2 ⟨rfl, rfl⟩))
    (try simp only [Exit.inBlock, Exit.then])
    refine bodyPost_ret (results_tmp4 rfl _ _ _) rfl ?_
    refine ⟨?_, Fr.refl _ _⟩
    rw [HE.out]
    simp [ansOf]
    rfl
  · have HL : Hid (IsLast s0 sn j) := .inr ⟨j, rfl, hj, e, hm⟩
    have HE : Hid (topN s0 sn = dist s0) := by unfold topN; exact if_pos (memB_iff.2 (e ▸ nth_mem hj))
    clear hm hj e
    go_enter Try.func8, Try.ntmps8
    go_wp2_with (first | (go_at_call 13; refine (distinct_eq b0 _ _ _ s0 _ H0).mono ?_; rintro e w2 ⟨rfl, rfl⟩) | (go_at_call 14; refine (last_eq b0 _ _ _ s0 sn _ H0 _ HL).mono ?_; rintro e w2 ⟨rfl, rfl⟩))
    (try simp only [Exit.inBlock, Exit.then])
    refine bodyPost_ret (results_tmp4 rfl _ _ _) rfl ?_
    refine ⟨?_, Fr.refl _ _⟩
    rw [HE.out]
    rfl

/-- The sub-object's name alone. -/
theorem model_sub (h3 : RdS w b3 a3 n3 c3 s3) {o5 n0 n1 n4 : Nat} (hc5 : 1 ≤ c5) (hm5 : c5 ≤ 2 ^ 63 - 1) (e5 : w.cell? ⟨b5, o5, none⟩ = some (.string sn)) :
    Calls Try.prog 8 #[.slice a0 n0 c0, .slice a1 n1 c1, .string sn, .slice a3 n3 c3, .slice a4 n4 c4, .slice (some ⟨b5, o5, none⟩) 1 c5] w (TPost (ansOf (topN s0 sn) (dist s3) (some Pl.sub)) w) := by
  have H3 : Hid (RdS w b3 a3 n3 c3 s3) := h3
  clear h3
  go_enter Try.func8, Try.ntmps8
  go_wp2_with (first | (go_at_call 13; refine (distinct_eq b3 _ _ _ s3 _ H3).mono ?_; rintro e w2 ⟨rfl, rfl⟩))
  (try simp only [Exit.inBlock, Exit.then])
  refine bodyPost_ret (results_tmp4 rfl _ _ _) rfl ?_
  exact ⟨rfl, Fr.refl _ _⟩

/-- The sub-object's name and one name more: no such member. -/
theorem model_sub_miss (h3 : RdS w b3 a3 n3 c3 s3) {k2 : Str} {o5 n0 n1 n4 n5 : Nat} (hn5 : 2 ≤ n5) (hc5 : n5 ≤ c5) (hm5 : c5 ≤ 2 ^ 63 - 1) (e5 : w.cell? ⟨b5, o5, none⟩ = some (.string sn)) (e6 : w.cell? ⟨b5, o5 + 1, none⟩ = some (.string k2)) (hL : IsLast s3 k2 (-1)) :
    Calls Try.prog 8 #[.slice a0 n0 c0, .slice a1 n1 c1, .string sn, .slice a3 n3 c3, .slice a4 n4 c4, .slice (some ⟨b5, o5, none⟩) n5 c5] w (TPost (ansOf (topN s0 sn) (dist s3) none) w) := by
  have H3 : Hid (RdS w b3 a3 n3 c3 s3) := h3
  have HL : Hid (IsLast s3 k2 (-1)) := hL
  clear h3 hL
  go_enter Try.func8, Try.ntmps8
  go_wp2_with (first | (go_at_call 14; refine (last_eq b3 _ _ _ s3 k2 _ H3 _ HL).mono ?_; rintro e w2 ⟨rfl, rfl⟩))
  all_goals (
    (try simp only [Exit.inBlock, Exit.then])
    refine bodyPost_ret (results_tmp4 rfl _ _ _) rfl ?_
    exact ⟨rfl, Fr.refl _ _⟩)

/-- The sub-object's name and two names more or more. -/
theorem model_sub_far (h3 : RdS w b3 a3 n3 c3 s3) {k2 : Str} {o5 n0 n1 n4 n5 : Nat} (hn5 : 3 ≤ n5) (hc5 : n5 ≤ c5) (hm5 : c5 ≤ 2 ^ 63 - 1) (e5 : w.cell? ⟨b5, o5, none⟩ = some (.string sn)) (e6 : w.cell? ⟨b5, o5 + 1, none⟩ = some (.string k2)) {j : Nat} (hL : IsLast s3 k2 j) :
    Calls Try.prog 8 #[.slice a0 n0 c0, .slice a1 n1 c1, .string sn, .slice a3 n3 c3, .slice a4 n4 c4, .slice (some ⟨b5, o5, none⟩) n5 c5] w (TPost (ansOf (topN s0 sn) (dist s3) none) w) := by
  have H3 : Hid (RdS w b3 a3 n3 c3 s3) := h3
  have HL : Hid (IsLast s3 k2 j) := hL
  clear h3 hL
  go_enter Try.func8, Try.ntmps8
  go_wp2_with (first | (go_at_call 14; refine (last_eq b3 _ _ _ s3 k2 _ H3 _ HL).mono ?_; rintro e w2 ⟨rfl, rfl⟩))
  (try simp only [Exit.inBlock, Exit.then])
  refine bodyPost_ret (results_tmp4 rfl _ _ _) rfl ?_
  exact ⟨rfl, Fr.refl _ _⟩

/-- The sub-object's name and a member's. -/
theorem model_sub_hit (h3 : RdS w b3 a3 n3 c3 s3) {k2 : Str} {o5 n0 n1 n4 : Nat} (hc5 : 2 ≤ c5) (hm5 : c5 ≤ 2 ^ 63 - 1) (e5 : w.cell? ⟨b5, o5, none⟩ = some (.string sn)) (e6 : w.cell? ⟨b5, o5 + 1, none⟩ = some (.string k2)) {j : Nat} (hL : IsLast s3 k2 j)
    {b4 o4 : Nat} {v : Str} (hj : j < n4) (hc4 : n4 ≤ c4) (hm4 : c4 ≤ 2 ^ 63 - 1) (e4 : w.cell? ⟨b4, o4 + j, none⟩ = some (.string v)) :
    Calls Try.prog 8 #[.slice a0 n0 c0, .slice a1 n1 c1, .string sn, .slice a3 n3 c3, .slice (some ⟨b4, o4, none⟩) n4 c4, .slice (some ⟨b5, o5, none⟩) 2 c5] w (TPost (ansOf (topN s0 sn) (dist s3) (some (Pl.str v))) w) := by
  have H3 : Hid (RdS w b3 a3 n3 c3 s3) := h3
  have HL : Hid (IsLast s3 k2 j) := hL
  clear h3 hL
  go_enter Try.func8, Try.ntmps8
  go_wp2_with (first | (go_at_call 14; refine (last_eq b3 _ _ _ s3 k2 _ H3 _ HL).mono ?_; rintro e w2 ⟨rfl, rfl⟩))
  go_region
  all_goals (try go_wp2)
  (try simp only [Exit.inBlock, Exit.then])
  refine bodyPost_ret (results_tmp4 rfl _ _ _) rfl ?_
  exact ⟨rfl, (Fr.refl _ _).drew⟩

/-- A name that is not the sub-object's: no such member. -/
theorem model_miss (h0 : RdS w b0 a0 n0 c0 s0) {k : Str} (hk : k ≠ sn) {o5 n1 n3 n4 n5 : Nat} (hn5 : 1 ≤ n5) (hc5 : n5 ≤ c5) (hm5 : c5 ≤ 2 ^ 63 - 1) (e5 : w.cell? ⟨b5, o5, none⟩ = some (.string k)) (hL : IsLast s0 k (-1)) :
    Calls Try.prog 8 #[.slice a0 n0 c0, .slice a1 n1 c1, .string sn, .slice a3 n3 c3, .slice a4 n4 c4, .slice (some ⟨b5, o5, none⟩) n5 c5] w (TPost (ansOf (topN s0 sn) (dist s3) none) w) := by
  have H0 : Hid (RdS w b0 a0 n0 c0 s0) := h0
  have HL : Hid (IsLast s0 k (-1)) := hL
  have hne := str_ne hk
  clear h0 hL hk
  go_enter Try.func8, Try.ntmps8
  go_wp2_with (first | (go_at_call 14; refine (last_eq b0 _ _ _ s0 k _ H0 _ HL).mono ?_; rintro e w2 ⟨rfl, rfl⟩))
  all_goals (
    (try simp only [Exit.inBlock, Exit.then])
    refine bodyPost_ret (results_tmp4 rfl _ _ _) rfl ?_
    exact ⟨rfl, Fr.refl _ _⟩)

/-- .. a member's, and more names. -/
theorem model_far (h0 : RdS w b0 a0 n0 c0 s0) {k : Str} (hk : k ≠ sn) {o5 n1 n3 n4 n5 : Nat} (hn5 : 2 ≤ n5) (hc5 : n5 ≤ c5) (hm5 : c5 ≤ 2 ^ 63 - 1) (e5 : w.cell? ⟨b5, o5, none⟩ = some (.string k)) {j : Nat} (hL : IsLast s0 k j) :
    Calls Try.prog 8 #[.slice a0 n0 c0, .slice a1 n1 c1, .string sn, .slice a3 n3 c3, .slice a4 n4 c4, .slice (some ⟨b5, o5, none⟩) n5 c5] w (TPost (ansOf (topN s0 sn) (dist s3) none) w) := by
  have H0 : Hid (RdS w b0 a0 n0 c0 s0) := h0
  have HL : Hid (IsLast s0 k j) := hL
  have hne := str_ne hk
  clear h0 hL hk
  go_enter Try.func8, Try.ntmps8
  go_wp2_with (first | (go_at_call 14; refine (last_eq b0 _ _ _ s0 k _ H0 _ HL).mono ?_; rintro e w2 ⟨rfl, rfl⟩))
  (try simp only [Exit.inBlock, Exit.then])
  refine bodyPost_ret (results_tmp4 rfl _ _ _) rfl ?_
  exact ⟨rfl, Fr.refl _ _⟩

/-- .. a member's alone. -/
theorem model_hit (h0 : RdS w b0 a0 n0 c0 s0) {k : Str} (hk : k ≠ sn) {o5 n1 n3 n4 : Nat} (hc5 : 1 ≤ c5) (hm5 : c5 ≤ 2 ^ 63 - 1) (e5 : w.cell? ⟨b5, o5, none⟩ = some (.string k)) {j : Nat} (hL : IsLast s0 k j)
    {b1 o1 : Nat} {v : Str} (hj : j < n1) (hc1 : n1 ≤ c1) (hm1 : c1 ≤ 2 ^ 63 - 1) (e1 : w.cell? ⟨b1, o1 + j, none⟩ = some (.string v)) :
    Calls Try.prog 8 #[.slice a0 n0 c0, .slice (some ⟨b1, o1, none⟩) n1 c1, .string sn, .slice a3 n3 c3, .slice a4 n4 c4, .slice (some ⟨b5, o5, none⟩) 1 c5] w (TPost (ansOf (topN s0 sn) (dist s3) (some (Pl.str v))) w) := by
  have H0 : Hid (RdS w b0 a0 n0 c0 s0) := h0
  have HL : Hid (IsLast s0 k j) := hL
  have hne := str_ne hk
  clear h0 hL hk
  go_enter Try.func8, Try.ntmps8
  go_wp2_with (first | (go_at_call 14; refine (last_eq b0 _ _ _ s0 k _ H0 _ HL).mono ?_; rintro e w2 ⟨rfl, rfl⟩))
  go_region
  all_goals (try go_wp2)
  (try simp only [Exit.inBlock, Exit.then])
  refine bodyPost_ret (results_tmp4 rfl _ _ _) rfl ?_
  exact ⟨rfl, (Fr.refl _ _).drew⟩
end

theorem walk_sub0 (T S : Str → Option Str) (sn : Str) : walkTo T S sn Pl.sub [] = some Pl.sub := rfl
theorem walk_sub1 (T S : Str → Option Str) (sn k : Str) : walkTo T S sn Pl.sub [k] = (S k).map Pl.str := walk_sub T S sn [k]
theorem walk_sub2 (T S : Str → Option Str) (sn k k' : Str) (p : List Str) : walkTo T S sn Pl.sub (k :: k' :: p) = none := walk_sub T S sn (k :: k' :: p)

/-- zzb1TreeModel says where the plain walk leads. -/
theorem model_ans (w : World) (b0 b1 b3 b4 b5 : Nat) (a0 a1 a3 a4 a5 : Option Addr) (n0 c0 c1 n3 c3 c4 n5 c5 : Nat) (s0 s1 s3 s4 s5 : List ByteArray) (sn : ByteArray)
    (h0 : RdS w b0 a0 n0 c0 s0) (h1 : RdS w b1 a1 n0 c1 s1) (h3 : RdS w b3 a3 n3 c3 s3) (h4 : RdS w b4 a4 n3 c4 s4) (h5 : RdS w b5 a5 n5 c5 s5) (hn0 : n0 ≤ 4096)
    (r : Option Pl) (hr : walkTo (look (s0.zip s1)) (look (s3.zip s4)) sn Pl.top s5 = r) :
    Calls Try.prog 8 #[.slice a0 n0 c0, .slice a1 n0 c1, .string sn, .slice a3 n3 c3, .slice a4 n3 c4, .slice a5 n5 c5] w (TPost (ansOf (topN s0 sn) (dist s3) r) w) := by
  subst hr
  have l01 : s0.length = s1.length := h0.len.trans h1.len.symm
  have l34 : s3.length = s4.length := h3.len.trans h4.len.symm
  have hc5 := h5.cap
  have hm5 := h5.max
  have hc1 := h1.cap
  have hm1 := h1.max
  have hc4 := h4.cap
  have hm4 := h4.max
  unfold maxLen at hm5 hm1 hm4
  cases s5 with
  | nil =>
    obtain rfl : n5 = 0 := h5.len.symm
    exact model_top (h0) (hn0)
  | cons k rest =>
    have l5 := h5.len
    have hpos : 0 < n5 := by rw [← l5]; simp
    obtain ⟨o5, rfl, hcell⟩ := h5.cell hpos
    have e5 : w.cell? ⟨b5, o5, none⟩ = some (.string k) := hcell 0 hpos
    rw [walk_top]
    by_cases hk : k = sn
    · subst hk
      rw [if_pos rfl]
      cases rest with
      | nil =>
        obtain rfl : n5 = 1 := l5.symm
        rw [walk_sub0]
        exact model_sub (h3) (hc5) (hm5) (e5)
      | cons k2 more =>
        have h2 : 2 ≤ n5 := by rw [← l5]; simp
        have e6 : w.cell? ⟨b5, o5 + 1, none⟩ = some (.string k2) := hcell 1 (by omega)
        rcases exists_last k2 s3 with hm | ⟨j, hj, e, hm⟩
        · have hl : IsLast s3 k2 (-1) := .inl ⟨rfl, hm⟩
          have hlk : look (s3.zip s4) k2 = none := look_none (by rw [zip_keys l34]; exact hm)
          have : walkTo (look (s0.zip s1)) (look (s3.zip s4)) k Pl.sub (k2 :: more) = none := by
            cases more with
            | nil => rw [walk_sub1, hlk]; rfl
            | cons _ _ => exact walk_sub2 ..
          rw [this]
          exact model_sub_miss (h3) (h2) (hc5) (hm5) (e5) (e6) (hl)
        · have hl : IsLast s3 k2 j := .inr ⟨j, rfl, hj, e, hm⟩
          have hlk : look (s3.zip s4) k2 = some (nth s4 j) := look_last s3 s4 k2 j l34 hj e hm
          cases more with
          | nil =>
            obtain rfl : n5 = 2 := l5.symm
            obtain ⟨o4, rfl, hcell4⟩ := h4.cell (by have := h3.len; omega)
            rw [walk_sub1, hlk]
            exact model_sub_hit (h3) (hc5) (hm5) (e5) (e6) (hl) (by have := h3.len; omega) (hc4) (hm4) (hcell4 j (by have := h3.len; omega))
          | cons k3 more =>
            rw [walk_sub2]
            exact model_sub_far (h3) (by rw [← l5]; simp) (hc5) (hm5) (e5) (e6) (hl)
    · rw [if_neg hk]
      rcases exists_last k s0 with hm | ⟨j, hj, e, hm⟩
      · have hl : IsLast s0 k (-1) := .inl ⟨rfl, hm⟩
        have hlk : look (s0.zip s1) k = none := look_none (by rw [zip_keys l01]; exact hm)
        have : (if rest = [] then (look (s0.zip s1) k).map Pl.str else none) = none := by
          rw [hlk]; split <;> rfl
        rw [this]
        exact model_miss (h0) (hk) (hpos) (hc5) (hm5) (e5) (hl)
      · have hl : IsLast s0 k j := .inr ⟨j, rfl, hj, e, hm⟩
        have hlk : look (s0.zip s1) k = some (nth s1 j) := look_last s0 s1 k j l01 hj e hm
        cases rest with
        | nil =>
          obtain rfl : n5 = 1 := l5.symm
          obtain ⟨o1, rfl, hcell1⟩ := h1.cell (by have := h0.len; omega)
          rw [if_pos rfl, hlk]
          exact model_hit (h0) (hk) (hc5) (hm5) (e5) (hl) (by have := h0.len; omega) (hc1) (hm1) (hcell1 j (by have := h0.len; omega))
        | cons k2 more =>
          rw [if_neg (by simp)]
          exact model_far (h0) (hk) (by rw [← l5]; simp) (hc5) (hm5) (e5) (hl)
end Go.Proofs.Qxb6615914a
