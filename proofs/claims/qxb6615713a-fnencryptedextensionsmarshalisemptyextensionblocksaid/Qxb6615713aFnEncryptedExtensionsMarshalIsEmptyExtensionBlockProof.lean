/-
  THE PROOF OF 'Rows.FnEncryptedExtensionsMarshalIsEmptyExtensionBlockSaid': the frame is the one that the kit's tool wrote for this function, turned to 'Below'; the walk lies in Qxb6615713aEncExt.
-/
import Derived.Test.Qxb6615713aEncExt
import Derived.Test.Qxb6615713aClosed
import Derived.WalkKit
import Derived.ProofKit
import Derived.OpenShut
import Derived.ShutString
namespace Go.Proofs.Qxb6615713a.fnEncryptedExtensionsMarshalIsEmptyExtensionBlock
open Go.ChangeShapes Go.WideShapes Go.ChangeAt Go.RowKit
open Go.ChangeMaps (open_string shut_string)
set_option linter.unusedVariables false      -- a walk need not use every 'w<i>' (that an integer argument fits its kind)

theorem own : ownKnob Try.prog.godebug = none := by kernel_rfl

/-! ### THE ROW's STEP: WRITTEN OUT: LEAVE IT -/
set_option maxRecDepth 100000 in
theorem lifted (os : Os) (started : os.Started) (H : Type) (enc : TypeId × Value → H) :
    ReturnsInHanded {} Try.checked os 7 .any (Rows.fnEncryptedExtensionsMarshalIsEmptyExtensionBlockSpec.pre6 enc Try.prog Try.f7 Rows.fnEncryptedExtensionsMarshalIsEmptyExtensionBlockRow.domain false) (Rows.fnEncryptedExtensionsMarshalIsEmptyExtensionBlockSpec.post enc Try.prog Try.f7 false true false false) := by
  refine returnsInHanded_of_change (C := Try.checked) own started (by kernel_rfl) Try.func7
    (ChangeSpec.witness6 (enc := enc) (C := Try.checked) false ⟨#[], #[], []⟩ 8 (by kernel_rfl) (by kernel_rfl) (by kernel_rfl) (by kernel_rfl)) ?_
  intro W base args ds gs before hval0 hW hcnd _
  have hval : ∀ (j : Nat) t v, Try.f7.params[j]? = some t → args[j]? = some v → Value.okWide Try.prog W .any base t v := hval0
  have hW' := hW
  obtain ⟨p, q, hA0, hV, rfl, hfz, hnd⟩ := hW
  have hA : DataW.TrodAll enc Try.prog W 0 (fun _ => true) true Try.f7.params.toList args.toList ds p := hA0
  rw [Try.params7] at hA hval
  obtain ⟨rfl, rfl, rfl⟩ := trodAll_none hA
  obtain ⟨rfl, rfl⟩ := trodVars_none hV
  clear hA0 hval0
  simp only [List.append_nil] at hW'
  refine (walk W).mono fun e W' ⟨he, bel⟩ => ?_
  subst he
  exact ⟨_, rfl, _, _, _, [], _, [], hW', trodAll_mk1 (shut_bool Try.underlying4 _), trodAll_mk0, rfl, bel.frame _, fun h => by cases h⟩

/-! ### THE CLOSED FACTS -/
theorem c_k0 : Rows.fnEncryptedExtensionsMarshalIsEmptyExtensionBlockRow.wf (OpenSpec.ofChange Rows.fnEncryptedExtensionsMarshalIsEmptyExtensionBlockSpec) = true := by kernel_rfl
theorem c_k3 : Try.f7.params.all (Try.prog.readableRec ·) = true := by kernel_rfl
theorem c_k4 : namedTie Try.prog Rows.fnEncryptedExtensionsMarshalIsEmptyExtensionBlockRow.named Rows.fnEncryptedExtensionsMarshalIsEmptyExtensionBlockSpec.vars = true := by kernel_rfl
theorem c_k5 : (Rows.fnEncryptedExtensionsMarshalIsEmptyExtensionBlockRow.stops == []) = true := by kernel_rfl
theorem c_k7 : (Rows.fnEncryptedExtensionsMarshalIsEmptyExtensionBlockRow.knobs == []) = true := by kernel_rfl
theorem c_k9 : (Rows.fnEncryptedExtensionsMarshalIsEmptyExtensionBlockRow.inPlace == Try.prog.inPlace 7) = true := by kernel_rfl
theorem c_k10 : (Rows.fnEncryptedExtensionsMarshalIsEmptyExtensionBlockRow.unfollowed == Try.prog.unfollowed 7) = true := by kernel_rfl
theorem c_k11 : (Rows.fnEncryptedExtensionsMarshalIsEmptyExtensionBlockRow.recurses == Try.prog.recurses 7) = true := by kernel_rfl
theorem c_k12 : (Rows.fnEncryptedExtensionsMarshalIsEmptyExtensionBlockRow.named == Try.prog.varsNamed 7) = true := by kernel_rfl
theorem c_k13 : (Rows.fnEncryptedExtensionsMarshalIsEmptyExtensionBlockRow.maps == (Try.f7.params.toList ++ Rows.fnEncryptedExtensionsMarshalIsEmptyExtensionBlockSpec.plain.varTypes Try.prog).any (Try.prog.mapsRec ·)) = true := by kernel_rfl
theorem c_k14 : (Rows.fnEncryptedExtensionsMarshalIsEmptyExtensionBlockRow.ifaces == (Try.f7.params.toList ++ Rows.fnEncryptedExtensionsMarshalIsEmptyExtensionBlockSpec.plain.varTypes Try.prog).any (Try.prog.ifacesRec ·)) = true := by kernel_rfl
theorem c_k15 : (Rows.fnEncryptedExtensionsMarshalIsEmptyExtensionBlockRow.mapsOut == Try.prog.mapsAmong Try.f7.resultTypes.toList) = true := by kernel_rfl
theorem c_k16 : (Rows.fnEncryptedExtensionsMarshalIsEmptyExtensionBlockRow.loops == (Try.f7.params.toList ++ Rows.fnEncryptedExtensionsMarshalIsEmptyExtensionBlockSpec.plain.varTypes Try.prog).any (Try.prog.loopsFrom ·)) = true := by kernel_rfl
theorem c_k17 : (Rows.fnEncryptedExtensionsMarshalIsEmptyExtensionBlockRow.wideKeys == (Try.f7.params.toList ++ Rows.fnEncryptedExtensionsMarshalIsEmptyExtensionBlockSpec.plain.varTypes Try.prog ++ Try.f7.resultTypes.toList).any (Try.prog.wideKeysFrom ·)) = true := by kernel_rfl
theorem c_k18 : Rows.fnEncryptedExtensionsMarshalIsEmptyExtensionBlockSpec.vars.all (Try.prog.varReadable ·) = true := by kernel_rfl
theorem c_k19 : Try.f7.resultTypes.all (fun t => Try.prog.readableRec t && decide (t < Try.prog.types.size)) = true := by kernel_rfl
theorem c_k20 : (Rows.fnEncryptedExtensionsMarshalIsEmptyExtensionBlockRow.ifacesOut == Try.f7.resultTypes.toList.any (Try.prog.ifacesRec ·)) = true := by kernel_rfl
theorem c_k21 : (Rows.fnEncryptedExtensionsMarshalIsEmptyExtensionBlockRow.loopsOut == Try.f7.resultTypes.toList.any (Try.prog.loopsFrom ·)) = true := by kernel_rfl
theorem c_k22 : (Rows.fnEncryptedExtensionsMarshalIsEmptyExtensionBlockRow.plainKeys == Try.prog.plainKeys) = true := by kernel_rfl
theorem c_k23 : Rows.fnEncryptedExtensionsMarshalIsEmptyExtensionBlockRow.shortTexts.isNone = true := by kernel_rfl
theorem c_k26 : (Rows.fnEncryptedExtensionsMarshalIsEmptyExtensionBlockRow.lifted == Try.prog.liftsFinal) = true := by rw [head_liftsFinal]; rfl
theorem c_k27 : (Try.prog.make == some Rows.fnEncryptedExtensionsMarshalIsEmptyExtensionBlockRow.make) = true := by rw [head_make]; rfl
theorem c_k29 : (Rows.fnEncryptedExtensionsMarshalIsEmptyExtensionBlockRow.pinned == Rows.fnEncryptedExtensionsMarshalIsEmptyExtensionBlockRow.pinnedBy) = true := by kernel_rfl
theorem c_k30 : (Rows.fnEncryptedExtensionsMarshalIsEmptyExtensionBlockRow.veiled == (Try.f7.params.toList ++ Rows.fnEncryptedExtensionsMarshalIsEmptyExtensionBlockSpec.plain.varTypes Try.prog ++ Try.f7.resultTypes.toList).any (Try.prog.veiledRec ·)) = true := by kernel_rfl
theorem c_k31 : Rows.fnEncryptedExtensionsMarshalIsEmptyExtensionBlockRow.veiledFits Try.prog Try.f7.params.toList (Try.f7.params.toList ++ Rows.fnEncryptedExtensionsMarshalIsEmptyExtensionBlockSpec.plain.varTypes Try.prog ++ Try.f7.resultTypes.toList) = true := by kernel_rfl
theorem closed : joinedFacts Try.prog 7 Try.f7 Rows.fnEncryptedExtensionsMarshalIsEmptyExtensionBlockSpec Rows.fnEncryptedExtensionsMarshalIsEmptyExtensionBlockRow = true := joined_mk c_k0 prog_k1 prog_k2 c_k3 c_k4 c_k5 prog_k6 c_k7 prog_k8 c_k9 c_k10 c_k11 c_k12 c_k13 c_k14 c_k15 c_k16 c_k17 c_k18 c_k19 c_k20 c_k21 c_k22 c_k23 prog_k24 head_mayEnter c_k26 c_k27 ⟨rfl, rfl⟩ c_k29 c_k30 c_k31

theorem over : Rows.fnEncryptedExtensionsMarshalIsEmptyExtensionBlockRow.holds Try.pinned (OpenSpec.ofChange Rows.fnEncryptedExtensionsMarshalIsEmptyExtensionBlockSpec) :=
  OpenClaim.holds_of_wide 7 Try.f7 rfl rfl rfl rfl rfl rfl rfl ⟨rfl, rfl, rfl, rfl, rfl⟩ rfl rfl rfl rfl rfl (by kernel_rfl) Try.func7 closed
    (of_decide_eq_true (by kernel_rfl)) (by unfold Func.isWrapper; first | (rw [if_pos (by decide +kernel)]; kernel_rfl) | (rw [if_neg (by decide +kernel)]; exact ⟨rfl, rfl⟩))
    (fun os started H enc _ => lifted os started H enc)

/-- ████ THE STATEMENT ████ -/
theorem proved : Rows.FnEncryptedExtensionsMarshalIsEmptyExtensionBlockSaid :=
  over
end Go.Proofs.Qxb6615713a.fnEncryptedExtensionsMarshalIsEmptyExtensionBlock
