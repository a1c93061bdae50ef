/- THE PLAIN LAW: what marshalling with the connection ID adds. No walk here. -/
import Derived.Test.Qxb6615713aZz
namespace Go.Proofs.Qxb6615713a
open Go.RowKit
set_option linter.unusedSimpArgs false
set_option linter.unusedVariables false

theorem getD_left {l r : List Int} {i : Nat} (h : i < l.length) : (l ++ r).getD i 0 = l.getD i 0 := by
  simp [List.getD, List.getElem?_append_left h]
theorem getD_right {l r : List Int} {i : Nat} (n : Nat) (hl : l.length = n) : (l ++ r).getD (n + i) 0 = r.getD i 0 := by
  simp [List.getD, List.getElem?_append_right (show l.length ≤ n + i by omega), hl]

theorem be2 (n : Int) : be 2 n = [n / 256 % 256, n % 256] := by simp [be]
theorem be1 (n : Int) : be 1 n = [n % 256] := by simp [be]

/-- The two messages, laid side by side: H the head, E the old block, X what is appended. -/
theorem m0_form (m : CH) : marshalB { m with has := false } = headB m ++ ([(extLen m false : Int) / 256 % 256, (extLen m false : Int) % 256] ++ extsB { m with has := false }) := by
  unfold marshalB vec
  rw [be2, extsB_length]
  rfl
theorem extsB_has (m : CH) : extsB { m with has := true } = extsB { m with has := false } ++ ext 54 (vec 1 m.cid) := by
  simp [extsB, sniB]
theorem m1_form (m : CH) : marshalB { m with has := true } = headB m ++ ([(extLen m true : Int) / 256 % 256, (extLen m true : Int) % 256] ++ (extsB { m with has := false } ++ ([0, 54, ((m.cid.length + 1 : Nat) : Int) / 256 % 256, ((m.cid.length + 1 : Nat) : Int) % 256, (m.cid.length : Int) % 256] ++ m.cid))) := by
  have e : marshalB { m with has := true } = headB m ++ (be 2 (extsB { m with has := true }).length ++ extsB { m with has := true }) := rfl
  rw [e, be2, extsB_length, extsB_has]
  have e2 : ext 54 (vec 1 m.cid) = [0, 54, ((m.cid.length + 1 : Nat) : Int) / 256 % 256, ((m.cid.length + 1 : Nat) : Int) % 256, (m.cid.length : Int) % 256] ++ m.cid := by
    have e3 : ext 54 (vec 1 m.cid) = [54 / 256, 54 % 256] ++ (be 2 (vec 1 m.cid).length ++ (be 1 m.cid.length ++ m.cid)) := rfl
    rw [e3, be2, be1, vec_length, Nat.add_comm 1]
    rfl
  rw [e2]
  rfl
theorem extLen_true (m : CH) : extLen m true = extLen m false + (5 + m.cid.length) := by simp [extLen]
theorem exts0_length (m : CH) : (extsB { m with has := false }).length = extLen m false := extsB_length _

/-- The two byte rows, index by index. -/
structure Two (A B : List Int) (h e0 e1 l : Nat) (cid : List Int) : Prop where
  la : A.length = h + 2 + e0
  lb : B.length = h + 2 + e1
  e1' : e1 = e0 + 5 + l
  lo : ∀ i, i < h → B.getD i 0 = A.getD i 0
  a0 : A.getD h 0 = (e0 : Int) / 256 % 256
  a1 : A.getD (h + 1) 0 = (e0 : Int) % 256
  b0 : B.getD h 0 = (e1 : Int) / 256 % 256
  b1 : B.getD (h + 1) 0 = (e1 : Int) % 256
  mid : ∀ i, h + 2 ≤ i → i < h + 2 + e0 → B.getD i 0 = A.getD i 0
  p0 : B.getD (h + 2 + e0) 0 = 0
  p1 : B.getD (h + 2 + e0 + 1) 0 = 54
  p2 : B.getD (h + 2 + e0 + 2) 0 = (1 + (l : Int)) / 256 % 256
  p3 : B.getD (h + 2 + e0 + 3) 0 = (1 + (l : Int)) % 256
  p4 : B.getD (h + 2 + e0 + 4) 0 = (l : Int) % 256
  tl : ∀ i, i < l → B.getD (h + 2 + e0 + 5 + i) 0 = cid.getD i 0
  ll : cid.length = l

theorem two_mk (H E cid : List Int) (h e0 e1 l : Nat) (hH : H.length = h) (hE : E.length = e0) (hc : cid.length = l) (he : e1 = e0 + 5 + l) :
    Two (H ++ ([(e0 : Int) / 256 % 256, (e0 : Int) % 256] ++ E)) (H ++ ([(e1 : Int) / 256 % 256, (e1 : Int) % 256] ++ (E ++ ([0, 54, ((l + 1 : Nat) : Int) / 256 % 256, ((l + 1 : Nat) : Int) % 256, (l : Int) % 256] ++ cid)))) h e0 e1 l cid := by
  have r2 : ∀ (a b c d : Int) (R : List Int) (k : Nat), (H ++ ([a, b] ++ (E ++ R))).getD (h + 2 + e0 + k) 0 = R.getD k 0 := fun a b c d R k => by
    rw [show h + 2 + e0 + k = h + (2 + (e0 + k)) by omega, getD_right h hH, getD_right (l := [a, b]) 2 rfl, getD_right e0 hE]
  refine ⟨by simp [hH, hE]; omega, by simp [hH, hE, hc]; omega, he, fun i hi => ?_, ?_, ?_, ?_, ?_, fun i h1 h2 => ?_, ?_, ?_, ?_, ?_, ?_, fun i hi => ?_, hc⟩
  · rw [getD_left (by omega), getD_left (by omega)]
  · exact (getD_right (i := 0) h hH).trans rfl
  · rw [getD_right h hH]; rfl
  · exact (getD_right (i := 0) h hH).trans rfl
  · rw [getD_right h hH]; rfl
  · obtain ⟨k, rfl⟩ : ∃ k, i = h + (2 + k) := ⟨i - h - 2, by omega⟩
    rw [getD_right h hH, getD_right h hH, getD_right 2 (by rfl), getD_right 2 (by rfl), getD_left (by omega)]
  · rw [show h + 2 + e0 = h + 2 + e0 + 0 by omega, r2 _ _ 0 0]; rfl
  · rw [r2 _ _ 0 0]; rfl
  · rw [r2 _ _ 0 0, Int.add_comm 1]; rfl
  · rw [r2 _ _ 0 0, Int.add_comm 1]; rfl
  · rw [r2 _ _ 0 0]; rfl
  · rw [show h + 2 + e0 + 5 + i = h + 2 + e0 + (5 + i) by omega, r2 _ _ 0 0, getD_right 5 (by rfl)]

theorem two_of (m : CH) : Two (marshalB { m with has := false }) (marshalB { m with has := true }) (headB m).length (extLen m false) (extLen m true) m.cid.length m.cid := by
  rw [m0_form, m1_form]
  exact two_mk _ _ _ _ _ _ _ rfl (exts0_length m) rfl (by rw [extLen_true]; omega)
end Go.Proofs.Qxb6615713a
