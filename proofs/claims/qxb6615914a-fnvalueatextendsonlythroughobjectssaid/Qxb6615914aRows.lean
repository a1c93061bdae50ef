/-
  No cell of these rows narrows 'for every input' (looked for: loops, veiled, ifaces, maps, wideKeys, modest, calm, conditions, laid).
  DERIVED. THE GIVEN ROWS OF THIS SEAT. 2 by the template 'for every input the law returns true; each argument reads behind the call as it read before'; 0 by the template 'total and deterministic' (their statements: Qxb6615914aTotals.lean).
  GIVEN WITH THE SEED: the statements are not yours to turn. If you find one false, say at which input.
  Laid BY PROGRAM, IN A SANDBOX (cutbox-rows.mjs): the forced cells as the released guide's own fill.sh prints them over the translation 2b23e92439b4c898… (all of the seat's roots in one cut). By AI agents, Wed Nov 11 2026. No macro, syntax, notation, axiom, sorry.
-/
import Derived.Test.Qxb6615914aChecked
import GoSem.Claim
import GoSem.ClaimJoined
import GoSem.ClaimMapViews
import Derived.JoinedTies
import Derived.KernelRfl
namespace Go.Proofs.Qxb6615914a
/- THE CELL 'sum', in the pinned program and in every row, IS THE sha256 OF THE DUMP (.gsa) THAT Qxb6615914aProg.lean LOADS. Nothing in Lean hashes anything: it is a label: what it is worth is what the hold of that sum in a sandbox is worth. -/
noncomputable def Try.pinned : Pinned := { name := "qxb6615914a", sum := "2b23e92439b4c898991c0f8cccce08cbfe659eef9ed56948ebae564e9c83583d", checked := Try.checked }
namespace Rows
def none {H : Type} : Left H := { results := [], args := [] }

/-- 'zzlaws_internal_view_b1.FnValueAtTreeExact': WHATEVER THE INPUT: true; the input reads as it did. -/
def fnValueAtTreeExactSpec : ChangeSpec := { name := "fnValueAtTreeExact", fn := fun _ => fun
  | [d1, d2, d3, d4, d5, d6] => { results := [.lit (.bool true)], args := [d1, d2, d3, d4, d5, d6] }
  | _ => none }
def fnValueAtTreeExactRow : OpenClaim := { program := "qxb6615914a", sum := "2b23e92439b4c898991c0f8cccce08cbfe659eef9ed56948ebae564e9c83583d", func := "example.com/ianus/ianus/zzlaws_internal_view_b1.FnValueAtTreeExact", spec := "fnValueAtTreeExact", apart := false }
def FnValueAtTreeExactSaid : Prop := fnValueAtTreeExactRow.holds Try.pinned (OpenSpec.ofChange fnValueAtTreeExactSpec)

/-- ITS FALSE NEIGHBOUR: 'it returns false'. Refute it at one input. -/
def fnValueAtTreeExactWrong : ChangeSpec := { name := "fnValueAtTreeExact", fn := fun _ => fun
  | [d1, d2, d3, d4, d5, d6] => { results := [.lit (.bool false)], args := [d1, d2, d3, d4, d5, d6] }
  | _ => none }
def FnValueAtTreeExactWrongFalsely : Prop := fnValueAtTreeExactRow.holds Try.pinned (OpenSpec.ofChange fnValueAtTreeExactWrong)

/-- 'zzlaws_internal_view_b1.FnValueAtExtendsOnlyThroughObjects': WHATEVER THE INPUT: true; the input reads as it did. -/
def fnValueAtExtendsOnlyThroughObjectsSpec : ChangeSpec := { name := "fnValueAtExtendsOnlyThroughObjects", fn := fun _ => fun
  | [d1, d2, d3, d4, d5, d6, d7] => { results := [.lit (.bool true)], args := [d1, d2, d3, d4, d5, d6, d7] }
  | _ => none }
def fnValueAtExtendsOnlyThroughObjectsRow : OpenClaim := { program := "qxb6615914a", sum := "2b23e92439b4c898991c0f8cccce08cbfe659eef9ed56948ebae564e9c83583d", func := "example.com/ianus/ianus/zzlaws_internal_view_b1.FnValueAtExtendsOnlyThroughObjects", spec := "fnValueAtExtendsOnlyThroughObjects", apart := false }
def FnValueAtExtendsOnlyThroughObjectsSaid : Prop := fnValueAtExtendsOnlyThroughObjectsRow.holds Try.pinned (OpenSpec.ofChange fnValueAtExtendsOnlyThroughObjectsSpec)

/-- ITS FALSE NEIGHBOUR: 'it returns false'. Refute it at one input. -/
def fnValueAtExtendsOnlyThroughObjectsWrong : ChangeSpec := { name := "fnValueAtExtendsOnlyThroughObjects", fn := fun _ => fun
  | [d1, d2, d3, d4, d5, d6, d7] => { results := [.lit (.bool false)], args := [d1, d2, d3, d4, d5, d6, d7] }
  | _ => none }
def FnValueAtExtendsOnlyThroughObjectsWrongFalsely : Prop := fnValueAtExtendsOnlyThroughObjectsRow.holds Try.pinned (OpenSpec.ofChange fnValueAtExtendsOnlyThroughObjectsWrong)

end Rows
end Go.Proofs.Qxb6615914a
