/- WHAT A SLICE OF STRINGS THAT CAME IN READS AS. -/
import Derived.Test.Qxb6615914aParts
import Derived.OpenShut
import Derived.SliceStrings
namespace Go.Proofs.Qxb6615914a
open Go.RowKit Go.WideShapes Go.ChangeShapes
set_option linter.unusedSimpArgs false
set_option linter.unusedVariables false

theorem strings_in {H : Type} {enc : TypeId × Value → H} {W : World} {base fuel : Nat} {sp : Nat → Bool} {held : Bool} {a : Option Addr} {len cap : Nat} {x : DataW H × List MemPlace}
    (h : DataW.trod enc Try.prog W base sp held fuel 22 (Value.slice a len cap).cells.toList = some x) : ∃ b ss, RdS W b a len cap ss := by
  rcases open_strings Try.underlying22 Try.underlying9 (by kernel_rfl) h with ⟨hcs, _⟩ | ⟨y, l, c, ss, hcs, _, hl, hm, hz, _, hcell, hw⟩
  · simp [Value.cells] at hcs
    obtain ⟨rfl, rfl, rfl⟩ := hcs
    exact ⟨0, [], RdS.empty _ _⟩
  · simp [Value.cells] at hcs
    obtain ⟨rfl, rfl, rfl⟩ := hcs
    have hlen : len ≤ ss.length := by rw [hz]; split <;> omega
    by_cases h0 : 0 < len
    · obtain ⟨b, off, spot⟩ := y
      have hspot : spot = none := by simpa [Addr.add] using World.cell?_spot (hcell 0 (by omega))
      subst hspot
      refine ⟨b, ss.take len, by simp; omega, hl, hm, fun e => by simp at e, fun _ => ⟨off, rfl, fun j hj => ?_⟩, fun s hs => hw s (List.mem_of_mem_take hs)⟩
      rw [← add_plain, hcell j (by omega)]
      simp [List.getD, List.getElem?_take, hj]
    · obtain rfl : len = 0 := by omega
      exact ⟨0, [], rfl, hl, hm, fun e => by simp at e, fun h => absurd h (by omega), fun s hs => by cases hs⟩
end Go.Proofs.Qxb6615914a
