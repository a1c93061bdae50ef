/- THE PLAIN MODEL: the last place of a key, the number of distinct keys, what a map of pairs holds, where a path leads. No Go in sight. -/
import Derived.Test.Qxb6615914aParts
namespace Go.Proofs.Qxb6615914a
set_option linter.unusedSimpArgs false
set_option linter.unusedVariables false

abbrev Str := ByteArray
abbrev nth (ss : List Str) (j : Nat) : Str := ss.getD j ByteArray.empty

theorem nth_eq {ss : List Str} {j : Nat} (h : j < ss.length) : nth ss j = ss[j] := by simp [nth, List.getD, List.getElem?_eq_getElem h]
theorem nth_mem {ss : List Str} {j : Nat} (h : j < ss.length) : nth ss j ∈ ss := by rw [nth_eq h]; exact List.getElem_mem _
theorem mem_nth {ss : List Str} {k : Str} (h : k ∈ ss) : ∃ j, j < ss.length ∧ nth ss j = k := by
  obtain ⟨j, hj, e⟩ := List.mem_iff_getElem.1 h
  exact ⟨j, hj, by rw [nth_eq hj, e]⟩

/-- i is the last place of k in ks, or -1. -/
def IsLast (ks : List Str) (k : Str) (i : Int) : Prop :=
  (i = -1 ∧ k ∉ ks) ∨ ∃ j : Nat, i = j ∧ j < ks.length ∧ nth ks j = k ∧ ∀ m, j < m → m < ks.length → nth ks m ≠ k

/-- Is k among ks? -/
def memB (k : Str) (ks : List Str) : Bool := ks.any fun a => decide (a = k)
theorem memB_iff {k : Str} {ks : List Str} : memB k ks = true ↔ k ∈ ks := by simp [memB]
theorem memB_no {k : Str} {ks : List Str} (h : k ∉ ks) : memB k ks = false := by
  cases hb : memB k ks with
  | false => rfl
  | true => exact absurd (memB_iff.1 hb) h

/-- The number of distinct keys. -/
def dist : List Str → Nat
  | [] => 0
  | k :: ks => (if memB k ks then 0 else 1) + dist ks

theorem dist_snoc (k : Str) : ∀ ks : List Str, dist (ks ++ [k]) = if memB k ks then dist ks else dist ks + 1
  | [] => by simp [dist, memB]
  | a :: ks => by
    have ih := dist_snoc k ks
    have e1 : memB a (ks ++ [k]) = (memB a ks || decide (k = a)) := by simp [memB]
    have e2 : memB k (a :: ks) = (decide (a = k) || memB k ks) := by simp [memB]
    simp only [List.cons_append, dist, ih, e1, e2]
    by_cases h3 : k = a
    · subst h3
      cases memB k ks <;> simp <;> omega
    · have h4 : ¬ a = k := fun e => h3 e.symm
      cases memB k ks <;> cases memB a ks <;> simp [h3, h4] <;> omega

theorem dist_drop (ks : List Str) (j : Nat) (hj : j < ks.length) : dist (ks.drop j) = (if memB (nth ks j) (ks.drop (j + 1)) then 0 else 1) + dist (ks.drop (j + 1)) := by
  rw [List.drop_eq_getElem_cons hj, nth_eq hj]
  rfl

theorem dist_le : ∀ ks : List Str, dist ks ≤ ks.length
  | [] => by simp [dist]
  | k :: ks => by have := dist_le ks; simp only [dist, List.length_cons]; split <;> omega

/-- The last place of the j-th key is j itself just where it does not come again. -/
theorem last_self {ks : List Str} {j : Nat} (hj : j < ks.length) {i : Int} (h : IsLast ks (nth ks j) i) : i = j ↔ nth ks j ∉ ks.drop (j + 1) := by
  have hmem : nth ks j ∈ ks.drop (j + 1) ↔ ∃ m, j < m ∧ m < ks.length ∧ nth ks m = nth ks j := by
    constructor
    · intro hm
      obtain ⟨t, ht, e⟩ := mem_nth hm
      simp at ht
      refine ⟨j + 1 + t, by omega, by omega, ?_⟩
      rw [← e]
      simp [nth, List.getD, List.getElem?_drop]
    · rintro ⟨m, h1, h2, e⟩
      rw [← e]
      have : nth ks m = nth (ks.drop (j + 1)) (m - (j + 1)) := by
        simp only [nth, List.getD, List.getElem?_drop]
        rw [show j + 1 + (m - (j + 1)) = m by omega]
      rw [this]
      exact nth_mem (by simp; omega)
  rw [hmem]
  rcases h with ⟨rfl, hn⟩ | ⟨t, rfl, ht, e, hl⟩
  · exact absurd (nth_mem hj) hn
  · constructor
    · intro h
      have h : t = j := by omega
      subst h
      rintro ⟨m, h1, h2, e2⟩
      exact hl m h1 h2 e2
    · intro h
      rcases Nat.lt_trichotomy t j with h1 | h1 | h1
      · exact absurd rfl (hl j h1 hj)
      · omega
      · exact absurd ⟨t, h1, ht, e⟩ h

/-- What the map of the pairs holds at k: a later pair wins. -/
def look : List (Str × Str) → Str → Option Str
  | [], _ => none
  | (a, v) :: l, k => (look l k).or (if a = k then some v else none)

theorem look_snoc (a v k : Str) : ∀ l : List (Str × Str), look (l ++ [(a, v)]) k = if a = k then some v else look l k
  | [] => by by_cases h : a = k <;> simp [look, h]
  | (a', v') :: l => by
    have ih := look_snoc a v k l
    simp only [List.cons_append, look, ih]
    by_cases h : a = k <;> simp [h]

theorem look_none {k : Str} : ∀ {l : List (Str × Str)}, k ∉ l.map (·.1) → look l k = none
  | [], _ => rfl
  | (a, v) :: l, h => by
    simp only [List.map_cons, List.mem_cons, not_or] at h
    simp only [look, look_none h.2]
    rw [if_neg (fun e => h.1 e.symm)]
    rfl

theorem look_isSome {k : Str} : ∀ {l : List (Str × Str)}, (look l k).isSome = true ↔ k ∈ l.map (·.1)
  | [] => by simp [look]
  | (a, v) :: l => by
    have ih := @look_isSome k l
    simp only [look, List.map_cons, List.mem_cons]
    by_cases h : a = k
    · subst h; simp
    · have h' : ¬ k = a := fun e => h e.symm
      simp [h, h', ih]

theorem look_last : ∀ (ks vs : List Str) (k : Str) (j : Nat), ks.length = vs.length → j < ks.length → nth ks j = k → (∀ m, j < m → m < ks.length → nth ks m ≠ k) → look (ks.zip vs) k = some (nth vs j)
  | [], _, _, j, _, hj, _, _ => absurd hj (by simp)
  | a :: ks, [], _, _, hl, _, _, _ => absurd hl (by simp)
  | a :: ks, v :: vs, k, 0, hl, _, e, hm => by
    have h0 : k ∉ ks := by
      intro hk
      obtain ⟨t, ht, et⟩ := mem_nth hk
      exact hm (t + 1) (by omega) (by simp; omega) (by simpa [nth] using et)
    have : look (ks.zip vs) k = none := look_none (by
      intro h
      have hz : (ks.zip vs).map (·.1) = ks := List.map_fst_zip (by simp at hl; omega)
      rw [hz] at h
      exact h0 h)
    have e' : a = k := by simpa [nth] using e
    simp [look, this, e', nth]
  | a :: ks, v :: vs, k, j + 1, hl, hj, e, hm => by
    have ih := look_last ks vs k j (by simpa using hl) (by simpa using hj) (by simpa [nth] using e) (fun m h1 h2 => by simpa [nth] using hm (m + 1) (by omega) (by simpa using h2))
    simp [look, ih, nth]

theorem zip_keys {ks vs : List Str} (h : ks.length = vs.length) : (ks.zip vs).map (·.1) = ks := List.map_fst_zip (by omega)

/-- The look-up in the words of the last place. -/
theorem look_of_last {ks vs : List Str} {k : Str} {i : Int} (hl : ks.length = vs.length) (h : IsLast ks k i) :
    (i = -1 ∧ look (ks.zip vs) k = none) ∨ ∃ j : Nat, i = j ∧ j < ks.length ∧ look (ks.zip vs) k = some (nth vs j) := by
  rcases h with ⟨rfl, hn⟩ | ⟨j, rfl, hj, e, hm⟩
  · exact .inl ⟨rfl, look_none (by rw [zip_keys hl]; exact hn)⟩
  · exact .inr ⟨j, rfl, hj, look_last ks vs k j hl hj e hm⟩

/-! ### Where a path leads -/
/-- The places that a path leads to: the whole, the sub-object, a string. -/
abbrev Pl := Sum Bool Str
abbrev Pl.top : Pl := Sum.inl true
abbrev Pl.sub : Pl := Sum.inl false
abbrev Pl.str (s : Str) : Pl := Sum.inr s

/-- One step from a place by a name; T, S: what the two maps hold as strings; sn: the sub-object's name. -/
def step (T S : Str → Option Str) (sn : Str) (v : Pl) (k : Str) : Option Pl :=
  match v with
  | .inl true => if k = sn then some Pl.sub else (T k).map Pl.str
  | .inl false => (S k).map Pl.str
  | .inr _ => none

/-- The path's end, or none. -/
def walkTo (T S : Str → Option Str) (sn : Str) : Pl → List Str → Option Pl
  | v, [] => some v
  | v, k :: p => (step T S sn v k).bind fun v' => walkTo T S sn v' p

theorem walkTo_snoc (T S : Str → Option Str) (sn x : Str) : ∀ (p : List Str) (v : Pl), walkTo T S sn v (p ++ [x]) = (walkTo T S sn v p).bind fun v' => step T S sn v' x
  | [], v => by
    simp only [List.nil_append, walkTo, Option.bind_some]
    cases step T S sn v x <;> rfl
  | k :: p, v => by
    simp only [List.cons_append, walkTo]
    cases step T S sn v k with
    | none => rfl
    | some v' => exact walkTo_snoc T S sn x p v'

/-- The answer in four words: kind, string, members, found. -/
structure Ans where
  kind : Int
  s : Str
  n : Int
  ok : Bool

def ansOf (nt ns : Nat) : Option Pl → Ans
  | none => ⟨0, ByteArray.empty, 0, false⟩
  | some (.inl true) => ⟨2, ByteArray.empty, nt, true⟩
  | some (.inl false) => ⟨2, ByteArray.empty, ns, true⟩
  | some (.inr s) => ⟨1, s, 0, true⟩

theorem walk_str (T S : Str → Option Str) (sn s : Str) : ∀ p : List Str, walkTo T S sn (Pl.str s) p = if p = [] then some (Pl.str s) else none
  | [] => rfl
  | k :: p => by simp [walkTo, step]

/-- From the sub-object: nothing, one name, more. -/
theorem walk_sub (T S : Str → Option Str) (sn : Str) : ∀ p : List Str, walkTo T S sn Pl.sub p = match p with | [] => some Pl.sub | [k] => (S k).map Pl.str | _ => none
  | [] => rfl
  | [k] => by
    simp only [walkTo, step]
    cases S k <;> rfl
  | k :: k' :: p => by
    simp only [walkTo, step]
    cases S k <;> simp [walk_str]

theorem walk_top (T S : Str → Option Str) (sn : Str) (k : Str) (p : List Str) : walkTo T S sn Pl.top (k :: p) = if k = sn then walkTo T S sn Pl.sub p else if p = [] then (T k).map Pl.str else none := by
  simp only [walkTo, step]
  by_cases h : k = sn
  · simp [h]
  · simp only [h, if_false]
    cases T k with
    | none => by_cases hp : p = [] <;> simp [hp]
    | some s => simp [walk_str]

end Go.Proofs.Qxb6615914a
