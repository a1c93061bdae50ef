/-
  THE PROOF OF 'Rows.FnValueAtExtendsOnlyThroughObjectsSaid': the frame; the walk lies in Qxb6615914aExtends.
-/
import Derived.Test.Qxb6615914aExtends
import Derived.Test.Qxb6615914aClosed
import Derived.Test.Qxb6615914aArgs
import Derived.WalkKit
import Derived.ProofKit
import Derived.OpenShut
import Derived.ShutString
import Derived.ChangeOld
import Derived.Below
namespace Go.Proofs.Qxb6615914a.fnValueAtExtendsOnlyThroughObjects
open Go.ChangeShapes Go.WideShapes Go.ChangeAt Go.RowKit
open Go.ChangeMaps (open_string shut_string)
set_option linter.unusedVariables false

theorem own : ownKnob Try.prog.godebug = none := by kernel_rfl
theorem laidOut : laidOutB Try.prog = true := by kernel_rfl

set_option maxRecDepth 100000 in
theorem lifted (os : Os) (started : os.Started) (H : Type) (enc : TypeId × Value → H) :
    ReturnsInHanded {} Try.checked os 4 .any (Rows.fnValueAtExtendsOnlyThroughObjectsSpec.pre6 enc Try.prog Try.f4 Rows.fnValueAtExtendsOnlyThroughObjectsRow.domain false) (Rows.fnValueAtExtendsOnlyThroughObjectsSpec.post enc Try.prog Try.f4 false true false false) := by
  refine returnsInHanded_of_change (C := Try.checked) own started (by kernel_rfl) Try.func4
    (ChangeSpec.witness6 (enc := enc) (C := Try.checked) false ⟨#[], #[.slice none 0 0, .slice none 0 0, .string ⟨#[]⟩, .slice none 0 0, .slice none 0 0, .slice none 0 0, .string ⟨#[]⟩], []⟩ 8 (by kernel_rfl) (by kernel_rfl) (by kernel_rfl) (by kernel_rfl)) ?_
  intro W base args ds gs before hval0 hW hcnd _
  have hval : ∀ (j : Nat) t v, Try.f4.params[j]? = some t → args[j]? = some v → Value.okWide Try.prog W .any base t v := hval0
  have hW' := hW
  obtain ⟨p, q, hA0, hV, rfl, hfz, hnd⟩ := hW
  have hA : DataW.TrodAll enc Try.prog W 0 (fun _ => true) true Try.f4.params.toList args.toList ds p := hA0
  rw [Try.params4] at hA hval
  obtain ⟨v0, vs0, d0, ds0, p0, q0, hargs, rfl, rfl, h0, r0⟩ := trodAll_cons hA
  obtain ⟨v1, vs1, d1, ds1, p1, q1, rfl, rfl, rfl, h1, r1⟩ := trodAll_cons r0
  obtain ⟨v2, vs2, d2, ds2, p2, q2, rfl, rfl, rfl, h2, r2⟩ := trodAll_cons r1
  obtain ⟨v3, vs3, d3, ds3, p3, q3, rfl, rfl, rfl, h3, r3⟩ := trodAll_cons r2
  obtain ⟨v4, vs4, d4, ds4, p4, q4, rfl, rfl, rfl, h4, r4⟩ := trodAll_cons r3
  obtain ⟨v5, vs5, d5, ds5, p5, q5, rfl, rfl, rfl, h5, r5⟩ := trodAll_cons r4
  obtain ⟨v6, vs6, d6, ds6, p6, q6, rfl, rfl, rfl, h6, r6⟩ := trodAll_cons r5
  obtain ⟨rfl, rfl, rfl⟩ := trodAll_nil r6
  obtain rfl : args = #[v0, v1, v2, v3, v4, v5, v6] := by cases args; simp_all
  obtain ⟨rfl, rfl⟩ := trodVars_none hV
  obtain ⟨a0, len0, cap0, rfl⟩ := okWide_slice Try.underlying22 (hval 0 22 v0 rfl rfl)
  have k0 := h0
  have lt0 : ∀ x ∈ p0, x.block < W.heap.size := by obtain ⟨m, hm⟩ := k0; exact DataW.trod_lt m _ _ _ hm
  obtain ⟨b0, ss0, w0⟩ : ∃ b ss, RdS W b a0 len0 cap0 ss := by
    obtain ⟨fuel, hf⟩ := h0
    exact strings_in hf
  obtain ⟨a1, len1, cap1, rfl⟩ := okWide_slice Try.underlying22 (hval 1 22 v1 rfl rfl)
  have k1 := h1
  have lt1 : ∀ x ∈ p1, x.block < W.heap.size := by obtain ⟨m, hm⟩ := k1; exact DataW.trod_lt m _ _ _ hm
  obtain ⟨b1, ss1, w1⟩ : ∃ b ss, RdS W b a1 len1 cap1 ss := by
    obtain ⟨fuel, hf⟩ := h1
    exact strings_in hf
  obtain ⟨s2, rfl, rfl, rfl, w2⟩ := open_string Try.underlying9 (hval 2 9 v2 rfl rfl) h2
  obtain ⟨a3, len3, cap3, rfl⟩ := okWide_slice Try.underlying22 (hval 3 22 v3 rfl rfl)
  have k3 := h3
  have lt3 : ∀ x ∈ p3, x.block < W.heap.size := by obtain ⟨m, hm⟩ := k3; exact DataW.trod_lt m _ _ _ hm
  obtain ⟨b3, ss3, w3⟩ : ∃ b ss, RdS W b a3 len3 cap3 ss := by
    obtain ⟨fuel, hf⟩ := h3
    exact strings_in hf
  obtain ⟨a4, len4, cap4, rfl⟩ := okWide_slice Try.underlying22 (hval 4 22 v4 rfl rfl)
  have k4 := h4
  have lt4 : ∀ x ∈ p4, x.block < W.heap.size := by obtain ⟨m, hm⟩ := k4; exact DataW.trod_lt m _ _ _ hm
  obtain ⟨b4, ss4, w4⟩ : ∃ b ss, RdS W b a4 len4 cap4 ss := by
    obtain ⟨fuel, hf⟩ := h4
    exact strings_in hf
  obtain ⟨a5, len5, cap5, rfl⟩ := okWide_slice Try.underlying22 (hval 5 22 v5 rfl rfl)
  have k5 := h5
  have lt5 : ∀ x ∈ p5, x.block < W.heap.size := by obtain ⟨m, hm⟩ := k5; exact DataW.trod_lt m _ _ _ hm
  obtain ⟨b5, ss5, w5⟩ : ∃ b ss, RdS W b a5 len5 cap5 ss := by
    obtain ⟨fuel, hf⟩ := h5
    exact strings_in hf
  obtain ⟨s6, rfl, rfl, rfl, w6⟩ := open_string Try.underlying9 (hval 6 9 v6 rfl rfl) h6
  clear hA0 hval0
  refine (extends_walk W b0 b1 b3 b4 b5 a0 a1 a3 a4 a5 len0 cap0 len1 cap1 len3 cap3 len4 cap4 len5 cap5 ss0 ss1 ss3 ss4 ss5 s2 s6 w0 w1 w3 w4 w5 w2 w6).mono fun e W' ⟨he, hfr⟩ => ?_
  have bel : Below W.heap.size W W' := hfr.below (Nat.le_refl _) (by simp)
  subst he
  exact ⟨_, rfl, _, _, _, [], _, [], hW', trodAll_mk1 (shut_bool Try.underlying4 _), (trodAll_cons_mk (Below.trod laidOut (by kernel_rfl) (of_decide_eq_true (by kernel_rfl)) k0 bel lt0) (trodAll_cons_mk (Below.trod laidOut (by kernel_rfl) (of_decide_eq_true (by kernel_rfl)) k1 bel lt1) (trodAll_cons_mk (shut_string Try.underlying9 w2) (trodAll_cons_mk (Below.trod laidOut (by kernel_rfl) (of_decide_eq_true (by kernel_rfl)) k3 bel lt3) (trodAll_cons_mk (Below.trod laidOut (by kernel_rfl) (of_decide_eq_true (by kernel_rfl)) k4 bel lt4) (trodAll_cons_mk (Below.trod laidOut (by kernel_rfl) (of_decide_eq_true (by kernel_rfl)) k5 bel lt5) (trodAll_cons_mk (shut_string Try.underlying9 w6) trodAll_mk0))))))), rfl, bel.frame _, fun h => by cases h⟩

/-! ### THE CLOSED FACTS -/
theorem c_k0 : Rows.fnValueAtExtendsOnlyThroughObjectsRow.wf (OpenSpec.ofChange Rows.fnValueAtExtendsOnlyThroughObjectsSpec) = true := by kernel_rfl
theorem c_k3 : Try.f4.params.all (Try.prog.readableRec ·) = true := by kernel_rfl
theorem c_k4 : namedTie Try.prog Rows.fnValueAtExtendsOnlyThroughObjectsRow.named Rows.fnValueAtExtendsOnlyThroughObjectsSpec.vars = true := by kernel_rfl
theorem c_k5 : (Rows.fnValueAtExtendsOnlyThroughObjectsRow.stops == []) = true := by kernel_rfl
theorem c_k7 : (Rows.fnValueAtExtendsOnlyThroughObjectsRow.knobs == []) = true := by kernel_rfl
theorem c_k9 : (Rows.fnValueAtExtendsOnlyThroughObjectsRow.inPlace == Try.prog.inPlace 4) = true := by kernel_rfl
theorem c_k10 : (Rows.fnValueAtExtendsOnlyThroughObjectsRow.unfollowed == Try.prog.unfollowed 4) = true := by kernel_rfl
theorem c_k11 : (Rows.fnValueAtExtendsOnlyThroughObjectsRow.recurses == Try.prog.recurses 4) = true := by kernel_rfl
theorem c_k12 : (Rows.fnValueAtExtendsOnlyThroughObjectsRow.named == Try.prog.varsNamed 4) = true := by kernel_rfl
theorem c_k13 : (Rows.fnValueAtExtendsOnlyThroughObjectsRow.maps == (Try.f4.params.toList ++ Rows.fnValueAtExtendsOnlyThroughObjectsSpec.plain.varTypes Try.prog).any (Try.prog.mapsRec ·)) = true := by kernel_rfl
theorem c_k14 : (Rows.fnValueAtExtendsOnlyThroughObjectsRow.ifaces == (Try.f4.params.toList ++ Rows.fnValueAtExtendsOnlyThroughObjectsSpec.plain.varTypes Try.prog).any (Try.prog.ifacesRec ·)) = true := by kernel_rfl
theorem c_k15 : (Rows.fnValueAtExtendsOnlyThroughObjectsRow.mapsOut == Try.prog.mapsAmong Try.f4.resultTypes.toList) = true := by kernel_rfl
theorem c_k16 : (Rows.fnValueAtExtendsOnlyThroughObjectsRow.loops == (Try.f4.params.toList ++ Rows.fnValueAtExtendsOnlyThroughObjectsSpec.plain.varTypes Try.prog).any (Try.prog.loopsFrom ·)) = true := by kernel_rfl
theorem c_k17 : (Rows.fnValueAtExtendsOnlyThroughObjectsRow.wideKeys == (Try.f4.params.toList ++ Rows.fnValueAtExtendsOnlyThroughObjectsSpec.plain.varTypes Try.prog ++ Try.f4.resultTypes.toList).any (Try.prog.wideKeysFrom ·)) = true := by kernel_rfl
theorem c_k18 : Rows.fnValueAtExtendsOnlyThroughObjectsSpec.vars.all (Try.prog.varReadable ·) = true := by kernel_rfl
theorem c_k19 : Try.f4.resultTypes.all (fun t => Try.prog.readableRec t && decide (t < Try.prog.types.size)) = true := by kernel_rfl
theorem c_k20 : (Rows.fnValueAtExtendsOnlyThroughObjectsRow.ifacesOut == Try.f4.resultTypes.toList.any (Try.prog.ifacesRec ·)) = true := by kernel_rfl
theorem c_k21 : (Rows.fnValueAtExtendsOnlyThroughObjectsRow.loopsOut == Try.f4.resultTypes.toList.any (Try.prog.loopsFrom ·)) = true := by kernel_rfl
theorem c_k22 : (Rows.fnValueAtExtendsOnlyThroughObjectsRow.plainKeys == Try.prog.plainKeys) = true := by kernel_rfl
theorem c_k23 : Rows.fnValueAtExtendsOnlyThroughObjectsRow.shortTexts.isNone = true := by kernel_rfl
theorem c_k26 : (Rows.fnValueAtExtendsOnlyThroughObjectsRow.lifted == Try.prog.liftsFinal) = true := by rw [head_liftsFinal]; rfl
theorem c_k27 : (Try.prog.make == some Rows.fnValueAtExtendsOnlyThroughObjectsRow.make) = true := by rw [head_make]; rfl
theorem c_k29 : (Rows.fnValueAtExtendsOnlyThroughObjectsRow.pinned == Rows.fnValueAtExtendsOnlyThroughObjectsRow.pinnedBy) = true := by kernel_rfl
theorem c_k30 : (Rows.fnValueAtExtendsOnlyThroughObjectsRow.veiled == (Try.f4.params.toList ++ Rows.fnValueAtExtendsOnlyThroughObjectsSpec.plain.varTypes Try.prog ++ Try.f4.resultTypes.toList).any (Try.prog.veiledRec ·)) = true := by kernel_rfl
theorem c_k31 : Rows.fnValueAtExtendsOnlyThroughObjectsRow.veiledFits Try.prog Try.f4.params.toList (Try.f4.params.toList ++ Rows.fnValueAtExtendsOnlyThroughObjectsSpec.plain.varTypes Try.prog ++ Try.f4.resultTypes.toList) = true := by kernel_rfl
theorem closed : joinedFacts Try.prog 4 Try.f4 Rows.fnValueAtExtendsOnlyThroughObjectsSpec Rows.fnValueAtExtendsOnlyThroughObjectsRow = true := joined_mk c_k0 prog_k1 prog_k2 c_k3 c_k4 c_k5 prog_k6 c_k7 prog_k8 c_k9 c_k10 c_k11 c_k12 c_k13 c_k14 c_k15 c_k16 c_k17 c_k18 c_k19 c_k20 c_k21 c_k22 c_k23 prog_k24 head_mayEnter c_k26 c_k27 ⟨rfl, rfl⟩ c_k29 c_k30 c_k31

theorem over : Rows.fnValueAtExtendsOnlyThroughObjectsRow.holds Try.pinned (OpenSpec.ofChange Rows.fnValueAtExtendsOnlyThroughObjectsSpec) :=
  OpenClaim.holds_of_wide 4 Try.f4 rfl rfl rfl rfl rfl rfl rfl ⟨rfl, rfl, rfl, rfl, rfl⟩ rfl rfl rfl rfl rfl (by kernel_rfl) Try.func4 closed
    (of_decide_eq_true (by kernel_rfl)) (by unfold Func.isWrapper; first | (rw [if_pos (by decide +kernel)]; kernel_rfl) | (rw [if_neg (by decide +kernel)]; exact ⟨rfl, rfl⟩))
    (fun os started H enc _ => lifted os started H enc)

/-- ████ THE STATEMENT ████ -/
theorem proved : Rows.FnValueAtExtendsOnlyThroughObjectsSaid := over
end Go.Proofs.Qxb6615914a.fnValueAtExtendsOnlyThroughObjects
