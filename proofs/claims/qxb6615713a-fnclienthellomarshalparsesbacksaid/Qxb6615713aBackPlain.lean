/- THE PLAIN PART of FnClientHelloMarshalParsesBack: the encoding taken apart from its front; its lengths. -/
import Derived.Test.Qxb6615713aHelloMore
import Derived.Test.Qxb6615713aHold
namespace Go.Proofs.Qxb6615713a
open Go.RowKit
set_option linter.unusedSimpArgs false
set_option linter.unusedVariables false

theorem marshalB_split (m : CH) : marshalB m = [m.ver / 256, m.ver % 256] ++ (m.rnd ++ (vec 1 m.sid ++ (vec 1 m.lck ++ (vec 2 (u16s m.cs) ++ (vec 1 m.cmp ++ (vec 2 (extsB m) ++ [])))))) := by
  simp only [marshalB, headB, List.append_assoc, List.append_nil]

def E7 (m : CH) : List Int := if m.has then ext 54 (vec 1 m.cid) else []
def E6 (m : CH) : List Int := (if m.ck.length = 0 then [] else ext 44 (vec 2 m.ck)) ++ E7 m
def E5 (m : CH) : List Int := ext 51 (vec 2 (ksB m.ks)) ++ E6 m
def E4 (m : CH) : List Int := ext 13 (vec 2 (u16s m.ss)) ++ E5 m
def E3 (m : CH) : List Int := ext 10 (vec 2 (u16s m.sg)) ++ E4 m
def E2 (m : CH) : List Int := ext 43 (vec 1 (u16s m.sv)) ++ E3 m
theorem extsB_split (m : CH) : extsB m = (if m.nm.size = 0 then [] else ext 0 (sniB m)) ++ E2 m := by
  simp only [extsB, E2, E3, E4, E5, E6, E7, List.append_assoc]
theorem ext_front (t : Int) (ys zs : List Int) : ext t ys ++ zs = [t / 256, t % 256] ++ (vec 2 ys ++ zs) := by
  simp only [ext, List.append_assoc]

theorem E2_front (m : CH) : E2 m = [0, 43] ++ (vec 2 (vec 1 (u16s m.sv)) ++ E3 m) := by rw [E2, ext_front]; rfl
theorem E3_front (m : CH) : E3 m = [0, 10] ++ (vec 2 (vec 2 (u16s m.sg)) ++ E4 m) := by rw [E3, ext_front]; rfl
theorem E4_front (m : CH) : E4 m = [0, 13] ++ (vec 2 (vec 2 (u16s m.ss)) ++ E5 m) := by rw [E4, ext_front]; rfl
theorem E5_front (m : CH) : E5 m = [0, 51] ++ (vec 2 (vec 2 (ksB m.ks)) ++ E6 m) := by rw [E5, ext_front]; rfl
theorem E6_front {m : CH} (h : m.ck.length ≠ 0) : E6 m = [0, 44] ++ (vec 2 (vec 2 m.ck) ++ E7 m) := by rw [E6, if_neg h, ext_front]; rfl
theorem E7_front {m : CH} (h : m.has = true) : E7 m = [0, 54] ++ (vec 2 (vec 1 m.cid) ++ []) := by rw [E7, if_pos h, ← List.append_nil (ext 54 _), ext_front]; rfl

structure Lens (m : CH) : Prop where
  sid : (m.sid.length : Int) < 256 ^ 1
  lck : (m.lck.length : Int) < 256 ^ 1
  cs : ((u16s m.cs).length : Int) < 256 ^ 2
  cmp : (m.cmp.length : Int) < 256 ^ 1
  exts : ((extsB m).length : Int) < 256 ^ 2
  sni : m.nm.size ≠ 0 → ((sniB m).length : Int) < 256 ^ 2
  sni1 : m.nm.size ≠ 0 → (([0] ++ vec 2 (nmB m.nm)).length : Int) < 256 ^ 2
  nm : m.nm.size ≤ 65535
  sv : ((vec 1 (u16s m.sv)).length : Int) < 256 ^ 2
  sv1 : ((u16s m.sv).length : Int) < 256 ^ 1
  sg : ((vec 2 (u16s m.sg)).length : Int) < 256 ^ 2
  sg1 : ((u16s m.sg).length : Int) < 256 ^ 2
  ss : ((vec 2 (u16s m.ss)).length : Int) < 256 ^ 2
  ss1 : ((u16s m.ss).length : Int) < 256 ^ 2
  ks : ((vec 2 (ksB m.ks)).length : Int) < 256 ^ 2
  ks1 : ((ksB m.ks).length : Int) < 256 ^ 2
  ksk : ∀ x ∈ m.ks, x.2.length ≤ 65535
  ck : m.ck.length ≠ 0 → ((vec 2 m.ck).length : Int) < 256 ^ 2
  ck1 : (m.ck.length : Int) < 256 ^ 2
  cid : m.has = true → ((vec 1 m.cid).length : Int) < 256 ^ 2
  cid1 : m.has = true → (m.cid.length : Int) < 256 ^ 1

theorem ksLen_mem (l : List (Int × List Int)) (x : Int × List Int) (hx : x ∈ l) : x.2.length ≤ ksLen l := by
  induction l with
  | nil => cases hx
  | cons y l ih =>
    have e : ksLen (y :: l) = 4 + y.2.length + ksLen l := by simp [ksLen]
    rcases List.mem_cons.1 hx with rfl | h
    · omega
    · have := ih h; omega

theorem lens_of {m : CH} (h : Fits m) : Lens m := by
  have h1 := h.sid
  have h2 := h.lck
  have h3 := h.cs
  have h4 := h.cmp
  have h5 := h.sv
  have h6 := h.ext
  unfold extLen at h6
  have hn : (if m.nm.size = 0 then 0 else 9 + m.nm.size) = 0 ∧ m.nm.size = 0 ∨ (if m.nm.size = 0 then 0 else 9 + m.nm.size) = 9 + m.nm.size := by split <;> omega
  have hc : (if m.ck.length = 0 then 0 else 6 + m.ck.length) = 0 ∧ m.ck.length = 0 ∨ (if m.ck.length = 0 then 0 else 6 + m.ck.length) = 6 + m.ck.length := by split <;> omega
  have hd : m.has = true → (if m.has then 5 + m.cid.length else 0) = 5 + m.cid.length := fun e => by rw [if_pos e]
  refine ⟨by omega, by omega, by rw [u16s_length]; omega, by omega, by rw [extsB_length]; have := h.ext; omega, fun _ => by rw [sniB_length]; omega, fun _ => by rw [List.length_append, vec_length, nmB_length]; simp only [List.length_cons, List.length_nil]; omega, by omega,
    by rw [vec_length, u16s_length]; omega, by rw [u16s_length]; omega, by rw [vec_length, u16s_length]; omega, by rw [u16s_length]; omega, by rw [vec_length, u16s_length]; omega, by rw [u16s_length]; omega, by rw [vec_length, ksB_length]; omega, by rw [ksB_length]; omega,
    fun x hx => ?_, fun _ => by rw [vec_length]; omega, by omega, fun e => by have := h.cid e; rw [vec_length]; omega, fun e => by have := h.cid e; omega⟩
  have := ksLen_mem m.ks x hx
  omega

theorem dom_no {m : CH} (hd : ¬ (255 < m.sid.length ∨ 255 < m.lck.length ∨ 255 < m.cmp.length ∨ 65535 < 2 * m.cs.length ∨ 255 < 2 * m.sv.length ∨ (m.has = true ∧ 255 < m.cid.length))) :
    m.sid.length ≤ 255 ∧ m.lck.length ≤ 255 ∧ m.cmp.length ≤ 255 ∧ 2 * m.cs.length ≤ 65535 ∧ 2 * m.sv.length ≤ 255 ∧ (m.has = true → m.cid.length ≤ 255) := by
  simp only [not_or, not_and, Nat.not_lt] at hd
  exact hd

theorem stp0 {W0 W W' : World} (B : Below W0.heap.size W0 W) (hf : Fr [] W W') : Below W0.heap.size W0 W' :=
  B.trans (hf.below B.size (fun k hk => by cases hk))
theorem stp1 {W0 W W' : World} {r : Nat} (B : Below W0.heap.size W0 W) (hf : Fr [r] W W') (hr : W0.heap.size ≤ r) : Below W0.heap.size W0 W' :=
  B.trans (hf.below B.size (fun k hk => by simp at hk; omega))
end Go.Proofs.Qxb6615713a
