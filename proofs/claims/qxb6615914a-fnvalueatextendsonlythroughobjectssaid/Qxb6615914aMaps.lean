/- THE MAPS: what a block that holds a map[string]any of strings and objects reads as (MapIs); valueAt and zzHandOut. -/
import Derived.Test.Qxb6615914aScan
import Derived.Maps.OwnSet
import Derived.Maps.Views
namespace Go.Proofs.Qxb6615914a
open Go.RowKit Go.Maps Go.WideMaps
set_option linter.unusedSimpArgs false
set_option linter.unusedVariables false

/-- What an element is: a string, or the object of a block. -/
abbrev El := Sum Str Nat
abbrev El.str (s : Str) : El := Sum.inl s
abbrev El.obj (b : Nat) : El := Sum.inr b
def El.val : El → Value
  | .inl s => .iface 9 (.string s)
  | .inr b => .iface 29 (.map (some b))
def El.dat : El → DataW Unit
  | .inl s => .lit (.string s.data.toList)
  | .inr b => .lit (.int .i64 b)

/-- How an element reads: each by a datum of its own. -/
def Rel (v : Value) : Option (DataW Unit × List MemPlace) :=
  match v with
  | .nilIface => some (.nil, [])
  | .iface 9 (.string s) => some (.lit (.string s.data.toList), [])
  | .iface 29 (.map (some b)) => some (.lit (.int .i64 b), [])
  | _ => none

theorem rel_val (e : El) : Rel e.val = some (e.dat, []) := by cases e <;> rfl
theorem rel_inv {v : Value} {e : El} {ps : List MemPlace} (h : Rel v = some (e.dat, ps)) : v = e.val := by
  unfold Rel at h
  split at h
  · cases e <;> simp [El.dat] at h
  · cases e with
    | inl s =>
      simp only [El.dat, Option.some.injEq, Prod.mk.injEq, DataW.lit.injEq, Lit.string.injEq] at h
      rename_i s'
      have : s' = s := str_inj (by rw [ByteArray.toList_eq, ByteArray.toList_eq]; exact h.1)
      rw [this]; rfl
    | inr b => simp [El.dat] at h
  · cases e with
    | inl s => simp [El.dat] at h
    | inr b =>
      simp only [El.dat, Option.some.injEq, Prod.mk.injEq, DataW.lit.injEq, Lit.int.injEq] at h
      rename_i b'
      have : b' = b := by omega
      rw [this]; rfl
  · simp at h
theorem rel_nil {v : Value} {ps : List MemPlace} (h : Rel v = some (.nil, ps)) : v = .nilIface := by
  unfold Rel at h
  split at h <;> simp_all

abbrev key (k : Str) : Lit := .string k.data.toList
theorem key_inj {a b : Str} (h : key a = key b) : a = b := by
  simp only [key, Lit.string.injEq] at h
  exact str_inj (by rw [ByteArray.toList_eq, ByteArray.toList_eq]; exact h)
theorem key_is (k : Str) : WideAt.IsKeyLit (key k) := trivial

theorem keyed9 : Keyed Try.prog 9 := string_keyed Try.underlying9
theorem zero20 (w : World) : (zeroValue 20).run Try.prog w = .ok .nilIface w := by kernel_rfl

/-- Block b is a map of at most n entries that holds f, with sz members. -/
def MapIs (w : World) (b n : Nat) (f : Str → Option El) (sz : Nat) : Prop :=
  ∃ D : DataW Unit, w.ownsMap Try.prog 9 Rel b n D ∧ Maps.size D = sz ∧ ∀ k : Str, match f k with | none => Maps.has D (key k) = false | some e => Maps.has D (key k) = true ∧ ∀ z, D.atKey (key k) z = e.dat

theorem MapIs.made (w : World) : MapIs (w.alloc (.map #[] 0)) w.heap.size 0 (fun _ => none) 0 :=
  ⟨_, World.ownsMap_made w Try.prog 9 Rel, rfl, fun k => rfl⟩

theorem MapIs.lt {w : World} {b n sz : Nat} {f : Str → Option El} (h : MapIs w b n f sz) : b < w.heap.size := by
  obtain ⟨D, ho, _⟩ := h
  exact ho.lt

theorem MapIs.move {w w' : World} {b n sz : Nat} {f : Str → Option El} (h : MapIs w b n f sz) (hb : w'.heap[b]? = w.heap[b]?) : MapIs w' b n f sz := by
  obtain ⟨D, ⟨es, cl, h1, h2⟩, h3⟩ := h
  exact ⟨D, ⟨es, cl, hb.trans h1, h2⟩, h3⟩

theorem MapIs.fr {w w' : World} {b n sz : Nat} {f : Str → Option El} {S : List Nat} (h : MapIs w b n f sz) (hf : Fr S w w') (hb : b ∉ S) : MapIs w' b n f sz :=
  h.move (hf.block b h.lt hb)

theorem MapIs.congr {w : World} {b n sz : Nat} {f g : Str → Option El} (h : MapIs w b n f sz) (e : ∀ k, f k = g k) : MapIs w b n g sz := by
  obtain rfl : f = g := funext e
  exact h

/-- 'v, ok := m[k]'. -/
def found : Option El → Value
  | none => .tuple #[.nilIface, .bool false]
  | some e => .tuple #[e.val, .bool true]

theorem MapIs.look {w : World} {b n sz : Nat} {f : Str → Option El} (h : MapIs w b n f sz) (k : Str) (hk : k.size ≤ maxLen) :
    (Instr.lookup 29 (.map (some b)) (.string k) true).run Try.prog w = .ok (found (f k)) w := by
  obtain ⟨D, ho, _, hf⟩ := h
  have hfk := hf k
  obtain ⟨v, ps, hrun, hv⟩ := ho.look_ok (t := 29) (e := 20) keyed9 Try.underlying29 (zero20 w) (zd := .nil) (zp := []) rfl (keyOf_string_mk Try.underlying9 hk)
  rw [hrun]
  cases hfc : f k with
  | none =>
    rw [hfc] at hfk
    simp only at hfk
    rw [atKey_of_not_has hfk] at hv
    rw [rel_nil hv, show Maps.has D (.string k.data.toList) = false from hfk]
    rfl
  | some e =>
    rw [hfc] at hfk
    simp only at hfk
    rw [hfk.2] at hv
    rw [rel_inv hv, show Maps.has D (.string k.data.toList) = true from hfk.1]
    rfl

/-- 'm[k] = e', told as the world that the store leaves. -/
theorem MapIs.put {w : World} {b n sz : Nat} {f : Str → Option El} (h : MapIs w b n f sz) (hn : n < maxLen) (k : Str) (hk : k.size ≤ maxLen) (e : El) :
    ∃ w', (Instr.mapUpdate 29 (.map (some b)) (.string k) e.val).run Try.prog w = .ok () w' ∧ MapIs w' b (n + 1) (fun x => if k = x then some e else f x) (if (f k).isSome then sz else sz + 1) ∧ w.grownBy w' (some b) := by
  obtain ⟨D, ho, hs, hf⟩ := h
  have ht := ho.tidy keyed9
  obtain ⟨w', hrun, ho', hg⟩ := ho.update (t := 29) (e := 20) keyed9 Try.underlying29 hn (keyOf_string_mk Try.underlying9 hk) (rel_val e)
  refine ⟨w', hrun, ⟨_, ho', ?_, fun x => ?_⟩, hg⟩
  · rw [size_put ht, hs]
    have hfk := hf k
    cases hfc : f k with
    | none =>
      rw [hfc] at hfk
      rw [show Maps.has D (.string k.data.toList) = false from hfk]
      simp
    | some e0 =>
      rw [hfc] at hfk
      rw [show Maps.has D (.string k.data.toList) = true from hfk.1]
      simp
  · by_cases hx : k = x
    · subst hx
      simp only [if_true]
      exact ⟨has_put_same ht.isMap (key_is k) _, fun z => atKey_put_same ht.isMap (key_is k) _ z⟩
    · simp only [hx, if_false]
      have hne : key x ≠ key k := fun e => hx (key_inj e).symm
      have hfx := hf x
      cases hfc : f x with
      | none =>
        rw [hfc] at hfx
        exact (has_put_other hne _).trans hfx
      | some e0 =>
        rw [hfc] at hfx
        exact ⟨(has_put_other hne _).trans hfx.1, fun z => (atKey_put_other hne _ z).trans (hfx.2 z)⟩

theorem MapIs.len {w : World} {b n sz : Nat} {f : Str → Option El} (h : MapIs w b n f sz) (ty : TypeId) : (Builtin.len_ #[29] ty #[.map (some b)]).run Try.prog w = .ok (.int .i64 sz) w := by
  obtain ⟨D, ho, hs, _⟩ := h
  rw [ho.len (t := 29) (e := 20) Try.underlying29, hs]

/-- Four results. -/
theorem results_tmp4 {fn : Func} {t u v x : Tmp} (h : fn.results = #[.tmp t, .tmp u, .tmp v, .tmp x]) (tmps : Array Value) (P : Program) (w : World) :
    (results fn tmps).run P w = .ok (.tuple #[tmps.getD t undef, tmps.getD u undef, tmps.getD v undef, tmps.getD x undef]) w := by
  simp [results, h]

/-! ### The type switch -/
theorem as29_29 (w : World) (v : Value) : (Instr.typeAssert (.iface 29 v) 20 29 true).run Try.prog w = .ok (.tuple #[v, .bool true]) w := by kernel_rfl
theorem as9_29 (w : World) (v : Value) : (Instr.typeAssert (.iface 9 v) 20 29 true).run Try.prog w = .ok (.tuple #[.map none, .bool false]) w := by kernel_rfl
theorem as9_9 (w : World) (v : Value) : (Instr.typeAssert (.iface 9 v) 20 9 true).run Try.prog w = .ok (.tuple #[v, .bool true]) w := by kernel_rfl
theorem as29_9 (w : World) (v : Value) : (Instr.typeAssert (.iface 29 v) 20 9 true).run Try.prog w = .ok (.tuple #[.string ByteArray.empty, .bool false]) w := by kernel_rfl
theorem asnil_9 (w : World) : (Instr.typeAssert .nilIface 20 9 true).run Try.prog w = .ok (.tuple #[.string ByteArray.empty, .bool false]) w := by kernel_rfl
theorem asnil_29 (w : World) : (Instr.typeAssert .nilIface 20 29 true).run Try.prog w = .ok (.tuple #[.map none, .bool false]) w := by kernel_rfl

theorem hand_str (w : World) (s : Str) (ok : Bool) : Calls Try.prog 12 #[.iface 9 (.string s), .bool ok] w fun e w' => e = .returned (.tuple #[.int .i64 1, .string s, .int .i64 0, .bool ok]) ∧ w = w' := by
  have h1 := as9_9 w (.string s)
  go_enter Try.func12, Try.ntmps12
  go_wp2
  (try simp only [Exit.inBlock, Exit.then])
  refine bodyPost_ret (results_tmp4 rfl _ _ _) rfl ?_
  exact ⟨rfl, rfl⟩
theorem hand_nil (w : World) (ok : Bool) : Calls Try.prog 12 #[.nilIface, .bool ok] w fun e w' => e = .returned (.tuple #[.int .i64 0, .string ByteArray.empty, .int .i64 0, .bool ok]) ∧ w = w' := by
  have h1 := asnil_9 w
  have h2 := asnil_29 w
  go_enter Try.func12, Try.ntmps12
  go_wp2
  (try simp only [Exit.inBlock, Exit.then])
  refine bodyPost_ret (results_tmp4 rfl _ _ _) rfl ?_
  exact ⟨rfl, rfl⟩
theorem hand_obj (w : World) (b n sz : Nat) (f : Str → Option El) (h : MapIs w b n f sz) (ok : Bool) : Calls Try.prog 12 #[.iface 29 (.map (some b)), .bool ok] w fun e w' => e = .returned (.tuple #[.int .i64 2, .string ByteArray.empty, .int .i64 sz, .bool ok]) ∧ w = w' := by
  have h1 := as29_9 w (.map (some b))
  have h2 := as29_29 w (.map (some b))
  have h3 := h.len
  clear h
  go_enter Try.func12, Try.ntmps12
  go_wp2
  (try simp only [Exit.inBlock, Exit.then])
  refine bodyPost_ret (results_tmp4 rfl _ _ _) rfl ?_
  exact ⟨rfl, rfl⟩

end Go.Proofs.Qxb6615914a
