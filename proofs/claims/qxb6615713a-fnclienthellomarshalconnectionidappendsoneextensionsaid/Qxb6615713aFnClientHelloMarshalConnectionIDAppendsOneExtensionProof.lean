/-
  THE PROOF OF 'Rows.FnClientHelloMarshalConnectionIDAppendsOneExtensionSaid': the frame; the opening lies in Qxb6615713aOpen42, the walk in Qxb6615713aCid.
-/
import Derived.Test.Qxb6615713aCid
import Derived.Test.Qxb6615713aOpen42
import Derived.Test.Qxb6615713aClosed
import Derived.WalkKit
import Derived.ProofKit
import Derived.OpenShut
import Derived.ChangeOld
import Derived.Below
namespace Go.Proofs.Qxb6615713a.fnClientHelloMarshalConnectionIDAppendsOneExtension
open Go.ChangeShapes Go.WideShapes Go.ChangeAt Go.RowKit
set_option linter.unusedVariables false

theorem own : ownKnob Try.prog.godebug = none := by kernel_rfl
theorem laidOut : laidOutB Try.prog = true := by kernel_rfl

set_option maxRecDepth 100000 in
theorem lifted (os : Os) (started : os.Started) (H : Type) (enc : TypeId × Value → H) :
    ReturnsInHanded {} Try.checked os 6 .any (Rows.fnClientHelloMarshalConnectionIDAppendsOneExtensionSpec.pre6 enc Try.prog Try.f6 Rows.fnClientHelloMarshalConnectionIDAppendsOneExtensionRow.domain false) (Rows.fnClientHelloMarshalConnectionIDAppendsOneExtensionSpec.post enc Try.prog Try.f6 false true false false) := by
  refine returnsInHanded_of_change (C := Try.checked) own started (by kernel_rfl) Try.func6
    (ChangeSpec.witness6 (enc := enc) (C := Try.checked) false ⟨#[], #[.agg #[.int .u16 0, .int .u8 0, .int .u8 0, .int .u8 0, .int .u8 0, .int .u8 0, .int .u8 0, .int .u8 0, .int .u8 0, .int .u8 0, .int .u8 0, .int .u8 0, .int .u8 0, .int .u8 0, .int .u8 0, .int .u8 0, .int .u8 0, .int .u8 0, .int .u8 0, .int .u8 0, .int .u8 0, .int .u8 0, .int .u8 0, .int .u8 0, .int .u8 0, .int .u8 0, .int .u8 0, .int .u8 0, .int .u8 0, .int .u8 0, .int .u8 0, .int .u8 0, .int .u8 0, .slice none 0 0, .slice none 0 0, .slice none 0 0, .slice none 0 0, .string ByteArray.empty, .slice none 0 0, .slice none 0 0, .slice none 0 0, .slice none 0 0, .slice none 0 0, .slice none 0 0, .bool false]], []⟩ 8 (by kernel_rfl) (by kernel_rfl) (by kernel_rfl) (by kernel_rfl)) ?_
  intro W base args ds gs before hval0 hW hcnd _
  have hval : ∀ (j : Nat) t v, Try.f6.params[j]? = some t → args[j]? = some v → Value.okWide Try.prog W .any base t v := hval0
  have hW' := hW
  obtain ⟨p, q, hA0, hV, rfl, hfz, hnd⟩ := hW
  have hA : DataW.TrodAll enc Try.prog W 0 (fun _ => true) true Try.f6.params.toList args.toList ds p := hA0
  rw [Try.params6] at hA hval
  obtain ⟨v0, d0, rfl, rfl, h0⟩ := trodAll_one hA
  obtain ⟨rfl, rfl⟩ := trodVars_none hV
  have k0 := h0
  have lt0 : ∀ x ∈ p, x.block < W.heap.size := by obtain ⟨m, hm⟩ := k0; exact DataW.trod_lt m _ _ _ hm
  obtain ⟨arr, m, rfl, hsz, hH⟩ := open42 (hval 0 42 v0 rfl rfl) h0
  clear hA0 hval0
  refine (walk arr m W hsz hH).mono fun e W' ⟨he, bel⟩ => ?_
  subst he
  exact ⟨_, rfl, _, _, _, [], _, [], hW', trodAll_mk1 (shut_bool Try.underlying4 _), trodAll_mk1 (Below.trod laidOut (by kernel_rfl) (of_decide_eq_true (by kernel_rfl)) k0 bel lt0), rfl, bel.frame _, fun h => by cases h⟩

/-! ### THE CLOSED FACTS -/
theorem c_k0 : Rows.fnClientHelloMarshalConnectionIDAppendsOneExtensionRow.wf (OpenSpec.ofChange Rows.fnClientHelloMarshalConnectionIDAppendsOneExtensionSpec) = true := by kernel_rfl
theorem c_k3 : Try.f6.params.all (Try.prog.readableRec ·) = true := by kernel_rfl
theorem c_k4 : namedTie Try.prog Rows.fnClientHelloMarshalConnectionIDAppendsOneExtensionRow.named Rows.fnClientHelloMarshalConnectionIDAppendsOneExtensionSpec.vars = true := by kernel_rfl
theorem c_k5 : (Rows.fnClientHelloMarshalConnectionIDAppendsOneExtensionRow.stops == []) = true := by kernel_rfl
theorem c_k7 : (Rows.fnClientHelloMarshalConnectionIDAppendsOneExtensionRow.knobs == []) = true := by kernel_rfl
theorem c_k9 : (Rows.fnClientHelloMarshalConnectionIDAppendsOneExtensionRow.inPlace == Try.prog.inPlace 6) = true := by kernel_rfl
theorem c_k10 : (Rows.fnClientHelloMarshalConnectionIDAppendsOneExtensionRow.unfollowed == Try.prog.unfollowed 6) = true := by kernel_rfl
theorem c_k11 : (Rows.fnClientHelloMarshalConnectionIDAppendsOneExtensionRow.recurses == Try.prog.recurses 6) = true := by kernel_rfl
theorem c_k12 : (Rows.fnClientHelloMarshalConnectionIDAppendsOneExtensionRow.named == Try.prog.varsNamed 6) = true := by kernel_rfl
theorem c_k13 : (Rows.fnClientHelloMarshalConnectionIDAppendsOneExtensionRow.maps == (Try.f6.params.toList ++ Rows.fnClientHelloMarshalConnectionIDAppendsOneExtensionSpec.plain.varTypes Try.prog).any (Try.prog.mapsRec ·)) = true := by kernel_rfl
theorem c_k14 : (Rows.fnClientHelloMarshalConnectionIDAppendsOneExtensionRow.ifaces == (Try.f6.params.toList ++ Rows.fnClientHelloMarshalConnectionIDAppendsOneExtensionSpec.plain.varTypes Try.prog).any (Try.prog.ifacesRec ·)) = true := by kernel_rfl
theorem c_k15 : (Rows.fnClientHelloMarshalConnectionIDAppendsOneExtensionRow.mapsOut == Try.prog.mapsAmong Try.f6.resultTypes.toList) = true := by kernel_rfl
theorem c_k16 : (Rows.fnClientHelloMarshalConnectionIDAppendsOneExtensionRow.loops == (Try.f6.params.toList ++ Rows.fnClientHelloMarshalConnectionIDAppendsOneExtensionSpec.plain.varTypes Try.prog).any (Try.prog.loopsFrom ·)) = true := by kernel_rfl
theorem c_k17 : (Rows.fnClientHelloMarshalConnectionIDAppendsOneExtensionRow.wideKeys == (Try.f6.params.toList ++ Rows.fnClientHelloMarshalConnectionIDAppendsOneExtensionSpec.plain.varTypes Try.prog ++ Try.f6.resultTypes.toList).any (Try.prog.wideKeysFrom ·)) = true := by kernel_rfl
theorem c_k18 : Rows.fnClientHelloMarshalConnectionIDAppendsOneExtensionSpec.vars.all (Try.prog.varReadable ·) = true := by kernel_rfl
theorem c_k19 : Try.f6.resultTypes.all (fun t => Try.prog.readableRec t && decide (t < Try.prog.types.size)) = true := by kernel_rfl
theorem c_k20 : (Rows.fnClientHelloMarshalConnectionIDAppendsOneExtensionRow.ifacesOut == Try.f6.resultTypes.toList.any (Try.prog.ifacesRec ·)) = true := by kernel_rfl
theorem c_k21 : (Rows.fnClientHelloMarshalConnectionIDAppendsOneExtensionRow.loopsOut == Try.f6.resultTypes.toList.any (Try.prog.loopsFrom ·)) = true := by kernel_rfl
theorem c_k22 : (Rows.fnClientHelloMarshalConnectionIDAppendsOneExtensionRow.plainKeys == Try.prog.plainKeys) = true := by kernel_rfl
theorem c_k23 : Rows.fnClientHelloMarshalConnectionIDAppendsOneExtensionRow.shortTexts.isNone = true := by kernel_rfl
theorem c_k26 : (Rows.fnClientHelloMarshalConnectionIDAppendsOneExtensionRow.lifted == Try.prog.liftsFinal) = true := by rw [head_liftsFinal]; rfl
theorem c_k27 : (Try.prog.make == some Rows.fnClientHelloMarshalConnectionIDAppendsOneExtensionRow.make) = true := by rw [head_make]; rfl
theorem c_k29 : (Rows.fnClientHelloMarshalConnectionIDAppendsOneExtensionRow.pinned == Rows.fnClientHelloMarshalConnectionIDAppendsOneExtensionRow.pinnedBy) = true := by kernel_rfl
theorem c_k30 : (Rows.fnClientHelloMarshalConnectionIDAppendsOneExtensionRow.veiled == (Try.f6.params.toList ++ Rows.fnClientHelloMarshalConnectionIDAppendsOneExtensionSpec.plain.varTypes Try.prog ++ Try.f6.resultTypes.toList).any (Try.prog.veiledRec ·)) = true := by kernel_rfl
theorem c_k31 : Rows.fnClientHelloMarshalConnectionIDAppendsOneExtensionRow.veiledFits Try.prog Try.f6.params.toList (Try.f6.params.toList ++ Rows.fnClientHelloMarshalConnectionIDAppendsOneExtensionSpec.plain.varTypes Try.prog ++ Try.f6.resultTypes.toList) = true := by kernel_rfl
theorem closed : joinedFacts Try.prog 6 Try.f6 Rows.fnClientHelloMarshalConnectionIDAppendsOneExtensionSpec Rows.fnClientHelloMarshalConnectionIDAppendsOneExtensionRow = true := joined_mk c_k0 prog_k1 prog_k2 c_k3 c_k4 c_k5 prog_k6 c_k7 prog_k8 c_k9 c_k10 c_k11 c_k12 c_k13 c_k14 c_k15 c_k16 c_k17 c_k18 c_k19 c_k20 c_k21 c_k22 c_k23 prog_k24 head_mayEnter c_k26 c_k27 ⟨rfl, rfl⟩ c_k29 c_k30 c_k31

theorem over : Rows.fnClientHelloMarshalConnectionIDAppendsOneExtensionRow.holds Try.pinned (OpenSpec.ofChange Rows.fnClientHelloMarshalConnectionIDAppendsOneExtensionSpec) :=
  OpenClaim.holds_of_wide 6 Try.f6 rfl rfl rfl rfl rfl rfl rfl ⟨rfl, rfl, rfl, rfl, rfl⟩ rfl rfl rfl rfl rfl (by kernel_rfl) Try.func6 closed
    (of_decide_eq_true (by kernel_rfl)) (by unfold Func.isWrapper; first | (rw [if_pos (by decide +kernel)]; kernel_rfl) | (rw [if_neg (by decide +kernel)]; exact ⟨rfl, rfl⟩))
    (fun os started H enc _ => lifted os started H enc)

/-- ████ THE STATEMENT ████ -/
theorem proved : Rows.FnClientHelloMarshalConnectionIDAppendsOneExtensionSaid := over
end Go.Proofs.Qxb6615713a.fnClientHelloMarshalConnectionIDAppendsOneExtension
