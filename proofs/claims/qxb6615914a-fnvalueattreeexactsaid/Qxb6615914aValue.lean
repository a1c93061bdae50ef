/- valueAt: it leads where the plain walk leads. -/
import Derived.Test.Qxb6615914aMaps
namespace Go.Proofs.Qxb6615914a
open Go.RowKit
set_option linter.unusedSimpArgs false
set_option linter.unusedVariables false

/-- A place as a value. -/
def pv (bp bo : Nat) : Pl → Value
  | .inl true => .iface 29 (.map (some bp))
  | .inl false => .iface 29 (.map (some bo))
  | .inr s => .iface 9 (.string s)
/-- What valueAt answers. -/
def outV (bp bo : Nat) : Option Pl → Value
  | none => .tuple #[.nilIface, .bool false]
  | some p => .tuple #[pv bp bo p, .bool true]
def VPost (bp bo : Nat) (r : Option Pl) (w : World) (e : Ending) (w' : World) : Prop := e = .returned (outV bp bo r) ∧ w = w'

def fTop (T : Str → Option Str) (sn : Str) (bo : Nat) (k : Str) : Option El := if sn = k then some (El.obj bo) else (T k).map El.str
def fSub (S : Str → Option Str) (k : Str) : Option El := (S k).map El.str

/-- At an object: the type assertion succeeds, and the look-up is the plain step. -/
theorem at_obj {w : World} {bp bo n1 n2 s1 s2 : Nat} {T S : Str → Option Str} {sn : Str} (hT : MapIs w bp n1 (fTop T sn bo) s1) (hS : MapIs w bo n2 (fSub S) s2) (p : Pl) (k : Str) (hk : k.size ≤ maxLen) :
    ((Instr.typeAssert (pv bp bo p) 20 29 true).run Try.prog w = .ok (.tuple #[.map none, .bool false]) w ∧ step T S sn p k = none) ∨
    ∃ m, (Instr.typeAssert (pv bp bo p) 20 29 true).run Try.prog w = .ok (.tuple #[.map (some m), .bool true]) w ∧ (Instr.lookup 29 (.map (some m)) (.string k) true).run Try.prog w = .ok (outV bp bo (step T S sn p k)) w := by
  rcases p with (_ | _) | s
  · refine .inr ⟨bo, as29_29 w _, ?_⟩
    rw [hS.look k hk]
    unfold fSub step
    cases S k <;> rfl
  · refine .inr ⟨bp, as29_29 w _, ?_⟩
    rw [hT.look k hk]
    unfold fTop step
    by_cases h : sn = k
    · subst h; simp [found, outV, pv, El.val]
    · have h' : ¬ k = sn := fun e => h e.symm
      simp only [h, h', if_false]
      cases T k <;> rfl
  · exact .inl ⟨as9_29 w _, rfl⟩

theorem walkTo_drop (T S : Str → Option Str) (sn : Str) (p : Pl) (ps : List Str) (j : Nat) (hj : j < ps.length) : walkTo T S sn p (ps.drop j) = (step T S sn p (nth ps j)).bind fun v' => walkTo T S sn v' (ps.drop (j + 1)) := by
  rw [List.drop_eq_getElem_cons hj, nth_eq hj]
  rfl

set_option maxHeartbeats 400000 in
theorem value_at (w : World) (bp bo n1 n2 s1 s2 : Nat) (T S : Str → Option Str) (sn : Str) (hT : MapIs w bp n1 (fTop T sn bo) s1) (hS : MapIs w bo n2 (fSub S) s2)
    (b : Nat) (a : Option Addr) (n c : Nat) (ps : List Str) (h : RdS w b a n c ps) :
    Calls Try.prog 11 #[.map (some bp), .slice a n c] w (VPost bp bo (walkTo T S sn Pl.top ps) w) := by
  have hcap1 := h.cap
  have hmax1 := h.max
  have hlen := h.len
  unfold maxLen at hmax1
  have HT : Hid (MapIs w bp n1 (fTop T sn bo) s1) := hT
  have HS : Hid (MapIs w bo n2 (fSub S) s2) := hS
  clear hT hS
  obtain ⟨r, hr⟩ : ∃ r, r = walkTo T S sn Pl.top ps := ⟨_, rfl⟩
  rw [← hr]
  go_enter Try.func11, Try.ntmps11
  go_wp2
  go_loopw [6, 15] (fun v i wr => ∃ (j : Nat) (p : Pl), j ≤ n ∧ v = pv bp bo p ∧ i = .int .i64 j ∧ Hid (r = walkTo T S sn p (ps.drop j)) ∧ w = wr) (fun _ i _ => n - (intOf i).toNat)
  case atStart => exact ⟨0, Pl.top, Nat.zero_le _, rfl, rfl, hr, rfl⟩
  case round =>
    obtain ⟨j, p, hj, rfl, rfl, hp, rfl⟩ := hrel
    clear hr
    by_cases hlt : j < n
    · obtain ⟨o, rfl, hc⟩ := h.cell (by omega)
      have e1 := hc j hlt
      have hk := h.at_wf hlt
      have hw := walkTo_drop T S sn p ps j (by omega)
      have HW : Hid (r = (step T S sn p (nth ps j)).bind fun v' => walkTo T S sn v' (ps.drop (j + 1))) := hp.out.trans hw
      have hb := at_obj HT.out HS.out p (nth ps j) hk
      change w.cell? _ = some (.string (nth ps j)) at e1
      clear h hc hw hk hp
      generalize nth ps j = k at *
      rcases hb with ⟨h1, h2⟩ | ⟨m, h1, h2⟩
      · have hrn : r = none := by have := HW.out; rw [h2] at this; exact this
        clear h2
        go_wp2
        go_ret2
        subst hrn
        exact ⟨rfl, rfl⟩
      · cases hst : step T S sn p k with
        | none =>
          have hrn : r = none := by have := HW.out; rw [hst] at this; exact this
          rw [hst] at h2
          unfold outV at h2
          clear hst
          go_wp2
          go_ret2
          subst hrn
          exact ⟨rfl, rfl⟩
        | some p' =>
          have HR : Hid (r = walkTo T S sn p' (ps.drop (j + 1))) := by have := HW.out; rw [hst] at this; exact this
          rw [hst] at h2
          unfold outV at h2
          clear hst HW
          go_wp2
          go_roundw
          case rel => exact ⟨j + 1, p', by omega, rfl, by go_num, HR, by simp⟩
          case measure => simp [intOf]; omega
    · obtain rfl : j = n := by omega
      have hrn : r = some p := by
        have := hp.out
        rw [← hlen, List.drop_length] at this
        exact this
      go_wp2
      go_ret2
      subst hrn
      exact ⟨rfl, rfl⟩
end Go.Proofs.Qxb6615914a
