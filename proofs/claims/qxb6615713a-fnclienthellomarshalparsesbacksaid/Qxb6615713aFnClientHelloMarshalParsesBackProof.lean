/-
  THE PROOF OF 'Rows.FnClientHelloMarshalParsesBackSaid': the frame; the opening lies in Qxb6615713aOpen42, the walk in Qxb6615713aBack.
-/
import Derived.Test.Qxb6615713aBack
import Derived.Test.Qxb6615713aOpen42
import Derived.Test.Qxb6615713aClosed
import Derived.WalkKit
import Derived.ProofKit
import Derived.OpenShut
import Derived.ChangeOld
import Derived.Below
namespace Go.Proofs.Qxb6615713a.fnClientHelloMarshalParsesBack
open Go.ChangeShapes Go.WideShapes Go.ChangeAt Go.RowKit
set_option linter.unusedVariables false

theorem own : ownKnob Try.prog.godebug = none := by kernel_rfl
theorem laidOut : laidOutB Try.prog = true := by kernel_rfl

set_option maxRecDepth 100000 in
theorem lifted (os : Os) (started : os.Started) (H : Type) (enc : TypeId × Value → H) :
    ReturnsInHanded {} Try.checked os 5 .any (Rows.fnClientHelloMarshalParsesBackSpec.pre6 enc Try.prog Try.f5 Rows.fnClientHelloMarshalParsesBackRow.domain false) (Rows.fnClientHelloMarshalParsesBackSpec.post enc Try.prog Try.f5 false true false false) := by
  refine returnsInHanded_of_change (C := Try.checked) own started (by kernel_rfl) Try.func5
    (ChangeSpec.witness6 (enc := enc) (C := Try.checked) false ⟨#[], #[.agg #[.int .u16 0, .int .u8 0, .int .u8 0, .int .u8 0, .int .u8 0, .int .u8 0, .int .u8 0, .int .u8 0, .int .u8 0, .int .u8 0, .int .u8 0, .int .u8 0, .int .u8 0, .int .u8 0, .int .u8 0, .int .u8 0, .int .u8 0, .int .u8 0, .int .u8 0, .int .u8 0, .int .u8 0, .int .u8 0, .int .u8 0, .int .u8 0, .int .u8 0, .int .u8 0, .int .u8 0, .int .u8 0, .int .u8 0, .int .u8 0, .int .u8 0, .int .u8 0, .int .u8 0, .slice none 0 0, .slice none 0 0, .slice none 0 0, .slice none 0 0, .string ByteArray.empty, .slice none 0 0, .slice none 0 0, .slice none 0 0, .slice none 0 0, .slice none 0 0, .slice none 0 0, .bool false]], []⟩ 8 (by kernel_rfl) (by kernel_rfl) (by kernel_rfl) (by kernel_rfl)) ?_
  intro W base args ds gs before hval0 hW hcnd _
  have hval : ∀ (j : Nat) t v, Try.f5.params[j]? = some t → args[j]? = some v → Value.okWide Try.prog W .any base t v := hval0
  have hW' := hW
  obtain ⟨p, q, hA0, hV, rfl, hfz, hnd⟩ := hW
  have hA : DataW.TrodAll enc Try.prog W 0 (fun _ => true) true Try.f5.params.toList args.toList ds p := hA0
  rw [Try.params5] at hA hval
  obtain ⟨v0, d0, rfl, rfl, h0⟩ := trodAll_one hA
  obtain ⟨rfl, rfl⟩ := trodVars_none hV
  have k0 := h0
  have lt0 : ∀ x ∈ p, x.block < W.heap.size := by obtain ⟨m, hm⟩ := k0; exact DataW.trod_lt m _ _ _ hm
  obtain ⟨arr, m, rfl, hsz, hH⟩ := open42 (hval 0 42 v0 rfl rfl) h0
  clear hA0 hval0
  refine (walk arr m W hsz hH).mono fun e W' ⟨he, bel⟩ => ?_
  subst he
  exact ⟨_, rfl, _, _, _, [], _, [], hW', trodAll_mk1 (shut_bool Try.underlying4 _), trodAll_mk1 (Below.trod laidOut (by kernel_rfl) (of_decide_eq_true (by kernel_rfl)) k0 bel lt0), rfl, bel.frame _, fun h => by cases h⟩

/-! ### THE CLOSED FACTS -/
theorem c_k0 : Rows.fnClientHelloMarshalParsesBackRow.wf (OpenSpec.ofChange Rows.fnClientHelloMarshalParsesBackSpec) = true := by kernel_rfl
theorem c_k3 : Try.f5.params.all (Try.prog.readableRec ·) = true := by kernel_rfl
theorem c_k4 : namedTie Try.prog Rows.fnClientHelloMarshalParsesBackRow.named Rows.fnClientHelloMarshalParsesBackSpec.vars = true := by kernel_rfl
theorem c_k5 : (Rows.fnClientHelloMarshalParsesBackRow.stops == []) = true := by kernel_rfl
theorem c_k7 : (Rows.fnClientHelloMarshalParsesBackRow.knobs == []) = true := by kernel_rfl
theorem c_k9 : (Rows.fnClientHelloMarshalParsesBackRow.inPlace == Try.prog.inPlace 5) = true := by kernel_rfl
theorem c_k10 : (Rows.fnClientHelloMarshalParsesBackRow.unfollowed == Try.prog.unfollowed 5) = true := by kernel_rfl
theorem c_k11 : (Rows.fnClientHelloMarshalParsesBackRow.recurses == Try.prog.recurses 5) = true := by kernel_rfl
theorem c_k12 : (Rows.fnClientHelloMarshalParsesBackRow.named == Try.prog.varsNamed 5) = true := by kernel_rfl
theorem c_k13 : (Rows.fnClientHelloMarshalParsesBackRow.maps == (Try.f5.params.toList ++ Rows.fnClientHelloMarshalParsesBackSpec.plain.varTypes Try.prog).any (Try.prog.mapsRec ·)) = true := by kernel_rfl
theorem c_k14 : (Rows.fnClientHelloMarshalParsesBackRow.ifaces == (Try.f5.params.toList ++ Rows.fnClientHelloMarshalParsesBackSpec.plain.varTypes Try.prog).any (Try.prog.ifacesRec ·)) = true := by kernel_rfl
theorem c_k15 : (Rows.fnClientHelloMarshalParsesBackRow.mapsOut == Try.prog.mapsAmong Try.f5.resultTypes.toList) = true := by kernel_rfl
theorem c_k16 : (Rows.fnClientHelloMarshalParsesBackRow.loops == (Try.f5.params.toList ++ Rows.fnClientHelloMarshalParsesBackSpec.plain.varTypes Try.prog).any (Try.prog.loopsFrom ·)) = true := by kernel_rfl
theorem c_k17 : (Rows.fnClientHelloMarshalParsesBackRow.wideKeys == (Try.f5.params.toList ++ Rows.fnClientHelloMarshalParsesBackSpec.plain.varTypes Try.prog ++ Try.f5.resultTypes.toList).any (Try.prog.wideKeysFrom ·)) = true := by kernel_rfl
theorem c_k18 : Rows.fnClientHelloMarshalParsesBackSpec.vars.all (Try.prog.varReadable ·) = true := by kernel_rfl
theorem c_k19 : Try.f5.resultTypes.all (fun t => Try.prog.readableRec t && decide (t < Try.prog.types.size)) = true := by kernel_rfl
theorem c_k20 : (Rows.fnClientHelloMarshalParsesBackRow.ifacesOut == Try.f5.resultTypes.toList.any (Try.prog.ifacesRec ·)) = true := by kernel_rfl
theorem c_k21 : (Rows.fnClientHelloMarshalParsesBackRow.loopsOut == Try.f5.resultTypes.toList.any (Try.prog.loopsFrom ·)) = true := by kernel_rfl
theorem c_k22 : (Rows.fnClientHelloMarshalParsesBackRow.plainKeys == Try.prog.plainKeys) = true := by kernel_rfl
theorem c_k23 : Rows.fnClientHelloMarshalParsesBackRow.shortTexts.isNone = true := by kernel_rfl
theorem c_k26 : (Rows.fnClientHelloMarshalParsesBackRow.lifted == Try.prog.liftsFinal) = true := by rw [head_liftsFinal]; rfl
theorem c_k27 : (Try.prog.make == some Rows.fnClientHelloMarshalParsesBackRow.make) = true := by rw [head_make]; rfl
theorem c_k29 : (Rows.fnClientHelloMarshalParsesBackRow.pinned == Rows.fnClientHelloMarshalParsesBackRow.pinnedBy) = true := by kernel_rfl
theorem c_k30 : (Rows.fnClientHelloMarshalParsesBackRow.veiled == (Try.f5.params.toList ++ Rows.fnClientHelloMarshalParsesBackSpec.plain.varTypes Try.prog ++ Try.f5.resultTypes.toList).any (Try.prog.veiledRec ·)) = true := by kernel_rfl
theorem c_k31 : Rows.fnClientHelloMarshalParsesBackRow.veiledFits Try.prog Try.f5.params.toList (Try.f5.params.toList ++ Rows.fnClientHelloMarshalParsesBackSpec.plain.varTypes Try.prog ++ Try.f5.resultTypes.toList) = true := by kernel_rfl
theorem closed : joinedFacts Try.prog 5 Try.f5 Rows.fnClientHelloMarshalParsesBackSpec Rows.fnClientHelloMarshalParsesBackRow = true := joined_mk c_k0 prog_k1 prog_k2 c_k3 c_k4 c_k5 prog_k6 c_k7 prog_k8 c_k9 c_k10 c_k11 c_k12 c_k13 c_k14 c_k15 c_k16 c_k17 c_k18 c_k19 c_k20 c_k21 c_k22 c_k23 prog_k24 head_mayEnter c_k26 c_k27 ⟨rfl, rfl⟩ c_k29 c_k30 c_k31

theorem over : Rows.fnClientHelloMarshalParsesBackRow.holds Try.pinned (OpenSpec.ofChange Rows.fnClientHelloMarshalParsesBackSpec) :=
  OpenClaim.holds_of_wide 5 Try.f5 rfl rfl rfl rfl rfl rfl rfl ⟨rfl, rfl, rfl, rfl, rfl⟩ rfl rfl rfl rfl rfl (by kernel_rfl) Try.func5 closed
    (of_decide_eq_true (by kernel_rfl)) (by unfold Func.isWrapper; first | (rw [if_pos (by decide +kernel)]; kernel_rfl) | (rw [if_neg (by decide +kernel)]; exact ⟨rfl, rfl⟩))
    (fun os started H enc _ => lifted os started H enc)

/-- ████ THE STATEMENT ████ -/
theorem proved : Rows.FnClientHelloMarshalParsesBackSaid := over
end Go.Proofs.Qxb6615713a.fnClientHelloMarshalParsesBack
