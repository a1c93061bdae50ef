/-
  THE PROOF OF 'Rows.FnReaderVectorReadsBackTwoWrittenVectorsSaid': the frame is the one that the kit's tool wrote for this function; the walk lies in Qxb6615713aTwo.
-/
import Derived.Test.Qxb6615713aTwo
import Derived.Test.Qxb6615713aClosed
import Derived.WalkKit
import Derived.ProofKit
import Derived.OpenShut
import Derived.ShutString
import Derived.ChangeOld
import Derived.Below
namespace Go.Proofs.Qxb6615713a.fnReaderVectorReadsBackTwoWrittenVectors
open Go.ChangeShapes Go.WideShapes Go.ChangeAt Go.RowKit
open Go.ChangeMaps (open_string shut_string)
set_option linter.unusedVariables false

theorem own : ownKnob Try.prog.godebug = none := by kernel_rfl
theorem laidOut : laidOutB Try.prog = true := by kernel_rfl

/-! ### THE ROW's STEP: WRITTEN OUT: LEAVE IT -/
set_option maxRecDepth 100000 in
theorem lifted (os : Os) (started : os.Started) (H : Type) (enc : TypeId × Value → H) :
    ReturnsInHanded {} Try.checked os 4 .any (Rows.fnReaderVectorReadsBackTwoWrittenVectorsSpec.pre6 enc Try.prog Try.f4 Rows.fnReaderVectorReadsBackTwoWrittenVectorsRow.domain false) (Rows.fnReaderVectorReadsBackTwoWrittenVectorsSpec.post enc Try.prog Try.f4 false true false false) := by
  refine returnsInHanded_of_change (C := Try.checked) own started (by kernel_rfl) Try.func4
    (ChangeSpec.witness6 (enc := enc) (C := Try.checked) false ⟨#[], #[.int .i64 0, .slice none 0 0, .int .i64 0, .slice none 0 0, .slice none 0 0], []⟩ 8 (by kernel_rfl) (by kernel_rfl) (by kernel_rfl) (by kernel_rfl)) ?_
  intro W base args ds gs before hval0 hW hcnd _
  have hval : ∀ (j : Nat) t v, Try.f4.params[j]? = some t → args[j]? = some v → Value.okWide Try.prog W .any base t v := hval0
  have hW' := hW
  obtain ⟨p, q, hA0, hV, rfl, hfz, hnd⟩ := hW
  have hA : DataW.TrodAll enc Try.prog W 0 (fun _ => true) true Try.f4.params.toList args.toList ds p := hA0
  rw [Try.params4] at hA hval
  obtain ⟨v0, vs0, d0, ds0, p0, q0, hargs, rfl, rfl, h0, r0⟩ := trodAll_cons hA
  obtain ⟨v1, vs1, d1, ds1, p1, q1, rfl, rfl, rfl, h1, r1⟩ := trodAll_cons r0
  obtain ⟨v2, vs2, d2, ds2, p2, q2, rfl, rfl, rfl, h2, r2⟩ := trodAll_cons r1
  obtain ⟨v3, vs3, d3, ds3, p3, q3, rfl, rfl, rfl, h3, r3⟩ := trodAll_cons r2
  obtain ⟨v4, vs4, d4, ds4, p4, q4, rfl, rfl, rfl, h4, r4⟩ := trodAll_cons r3
  obtain ⟨rfl, rfl, rfl⟩ := trodAll_nil r4
  obtain rfl : args = #[v0, v1, v2, v3, v4] := by cases args; simp_all
  obtain ⟨rfl, rfl⟩ := trodVars_none hV
  obtain ⟨a0, rfl, rfl, rfl, w0⟩ := open_int Try.underlying3 (hval 0 3 v0 rfl rfl) h0
  obtain ⟨a1, len1, cap1, rfl⟩ := okWide_slice Try.underlying22 (hval 1 22 v1 rfl rfl)
  have k1 := h1
  have lt1 : ∀ x ∈ p1, x.block < W.heap.size := by obtain ⟨m, hm⟩ := k1; exact DataW.trod_lt m _ _ _ hm
  obtain ⟨z1, w1⟩ : ∃ zs, IsRow .u8 W a1 len1 cap1 zs := by
    obtain ⟨fuel, hf⟩ := h1
    rcases open_ints Try.underlying22 Try.underlying5 (by kernel_rfl) hf with ⟨hcs, _⟩ | ⟨x, l, c, zs, hcs, _, hl, hm, hz, _, hcell, hwz⟩
    · simp [Value.cells] at hcs
      obtain ⟨rfl, rfl, rfl⟩ := hcs
      exact ⟨[], .inl ⟨rfl, rfl, rfl, rfl⟩⟩
    · simp [Value.cells] at hcs
      obtain ⟨rfl, rfl, rfl⟩ := hcs
      exact ⟨zs, .inr ⟨_, rfl, hl, hm, by simpa using hz, hcell, hwz⟩⟩
  obtain ⟨a2, rfl, rfl, rfl, w2⟩ := open_int Try.underlying3 (hval 2 3 v2 rfl rfl) h2
  obtain ⟨a3, len3, cap3, rfl⟩ := okWide_slice Try.underlying22 (hval 3 22 v3 rfl rfl)
  have k3 := h3
  have lt3 : ∀ x ∈ p3, x.block < W.heap.size := by obtain ⟨m, hm⟩ := k3; exact DataW.trod_lt m _ _ _ hm
  obtain ⟨z3, w3⟩ : ∃ zs, IsRow .u8 W a3 len3 cap3 zs := by
    obtain ⟨fuel, hf⟩ := h3
    rcases open_ints Try.underlying22 Try.underlying5 (by kernel_rfl) hf with ⟨hcs, _⟩ | ⟨x, l, c, zs, hcs, _, hl, hm, hz, _, hcell, hwz⟩
    · simp [Value.cells] at hcs
      obtain ⟨rfl, rfl, rfl⟩ := hcs
      exact ⟨[], .inl ⟨rfl, rfl, rfl, rfl⟩⟩
    · simp [Value.cells] at hcs
      obtain ⟨rfl, rfl, rfl⟩ := hcs
      exact ⟨zs, .inr ⟨_, rfl, hl, hm, by simpa using hz, hcell, hwz⟩⟩
  obtain ⟨a4, len4, cap4, rfl⟩ := okWide_slice Try.underlying22 (hval 4 22 v4 rfl rfl)
  have k4 := h4
  have lt4 : ∀ x ∈ p4, x.block < W.heap.size := by obtain ⟨m, hm⟩ := k4; exact DataW.trod_lt m _ _ _ hm
  obtain ⟨z4, w4⟩ : ∃ zs, IsRow .u8 W a4 len4 cap4 zs := by
    obtain ⟨fuel, hf⟩ := h4
    rcases open_ints Try.underlying22 Try.underlying5 (by kernel_rfl) hf with ⟨hcs, _⟩ | ⟨x, l, c, zs, hcs, _, hl, hm, hz, _, hcell, hwz⟩
    · simp [Value.cells] at hcs
      obtain ⟨rfl, rfl, rfl⟩ := hcs
      exact ⟨[], .inl ⟨rfl, rfl, rfl, rfl⟩⟩
    · simp [Value.cells] at hcs
      obtain ⟨rfl, rfl, rfl⟩ := hcs
      exact ⟨zs, .inr ⟨_, rfl, hl, hm, by simpa using hz, hcell, hwz⟩⟩
  clear hA0 hval0
  refine (walk a0 a1 len1 cap1 z1 a2 a3 len3 cap3 z3 a4 len4 cap4 z4 W w0 w1 w2 w3 w4).mono fun e W' ⟨he, bel⟩ => ?_
  subst he
  exact ⟨_, rfl, _, _, _, [], _, [], hW', trodAll_mk1 (shut_bool Try.underlying4 _), (trodAll_cons_mk (shut_int Try.underlying3 w0) (trodAll_cons_mk (Below.trod laidOut (by kernel_rfl) (of_decide_eq_true (by kernel_rfl)) k1 bel lt1) (trodAll_cons_mk (shut_int Try.underlying3 w2) (trodAll_cons_mk (Below.trod laidOut (by kernel_rfl) (of_decide_eq_true (by kernel_rfl)) k3 bel lt3) (trodAll_cons_mk (Below.trod laidOut (by kernel_rfl) (of_decide_eq_true (by kernel_rfl)) k4 bel lt4) trodAll_mk0))))), rfl, bel.frame _, fun h => by cases h⟩

/-! ### THE CLOSED FACTS -/
theorem c_k0 : Rows.fnReaderVectorReadsBackTwoWrittenVectorsRow.wf (OpenSpec.ofChange Rows.fnReaderVectorReadsBackTwoWrittenVectorsSpec) = true := by kernel_rfl
theorem c_k3 : Try.f4.params.all (Try.prog.readableRec ·) = true := by kernel_rfl
theorem c_k4 : namedTie Try.prog Rows.fnReaderVectorReadsBackTwoWrittenVectorsRow.named Rows.fnReaderVectorReadsBackTwoWrittenVectorsSpec.vars = true := by kernel_rfl
theorem c_k5 : (Rows.fnReaderVectorReadsBackTwoWrittenVectorsRow.stops == []) = true := by kernel_rfl
theorem c_k7 : (Rows.fnReaderVectorReadsBackTwoWrittenVectorsRow.knobs == []) = true := by kernel_rfl
theorem c_k9 : (Rows.fnReaderVectorReadsBackTwoWrittenVectorsRow.inPlace == Try.prog.inPlace 4) = true := by kernel_rfl
theorem c_k10 : (Rows.fnReaderVectorReadsBackTwoWrittenVectorsRow.unfollowed == Try.prog.unfollowed 4) = true := by kernel_rfl
theorem c_k11 : (Rows.fnReaderVectorReadsBackTwoWrittenVectorsRow.recurses == Try.prog.recurses 4) = true := by kernel_rfl
theorem c_k12 : (Rows.fnReaderVectorReadsBackTwoWrittenVectorsRow.named == Try.prog.varsNamed 4) = true := by kernel_rfl
theorem c_k13 : (Rows.fnReaderVectorReadsBackTwoWrittenVectorsRow.maps == (Try.f4.params.toList ++ Rows.fnReaderVectorReadsBackTwoWrittenVectorsSpec.plain.varTypes Try.prog).any (Try.prog.mapsRec ·)) = true := by kernel_rfl
theorem c_k14 : (Rows.fnReaderVectorReadsBackTwoWrittenVectorsRow.ifaces == (Try.f4.params.toList ++ Rows.fnReaderVectorReadsBackTwoWrittenVectorsSpec.plain.varTypes Try.prog).any (Try.prog.ifacesRec ·)) = true := by kernel_rfl
theorem c_k15 : (Rows.fnReaderVectorReadsBackTwoWrittenVectorsRow.mapsOut == Try.prog.mapsAmong Try.f4.resultTypes.toList) = true := by kernel_rfl
theorem c_k16 : (Rows.fnReaderVectorReadsBackTwoWrittenVectorsRow.loops == (Try.f4.params.toList ++ Rows.fnReaderVectorReadsBackTwoWrittenVectorsSpec.plain.varTypes Try.prog).any (Try.prog.loopsFrom ·)) = true := by kernel_rfl
theorem c_k17 : (Rows.fnReaderVectorReadsBackTwoWrittenVectorsRow.wideKeys == (Try.f4.params.toList ++ Rows.fnReaderVectorReadsBackTwoWrittenVectorsSpec.plain.varTypes Try.prog ++ Try.f4.resultTypes.toList).any (Try.prog.wideKeysFrom ·)) = true := by kernel_rfl
theorem c_k18 : Rows.fnReaderVectorReadsBackTwoWrittenVectorsSpec.vars.all (Try.prog.varReadable ·) = true := by kernel_rfl
theorem c_k19 : Try.f4.resultTypes.all (fun t => Try.prog.readableRec t && decide (t < Try.prog.types.size)) = true := by kernel_rfl
theorem c_k20 : (Rows.fnReaderVectorReadsBackTwoWrittenVectorsRow.ifacesOut == Try.f4.resultTypes.toList.any (Try.prog.ifacesRec ·)) = true := by kernel_rfl
theorem c_k21 : (Rows.fnReaderVectorReadsBackTwoWrittenVectorsRow.loopsOut == Try.f4.resultTypes.toList.any (Try.prog.loopsFrom ·)) = true := by kernel_rfl
theorem c_k22 : (Rows.fnReaderVectorReadsBackTwoWrittenVectorsRow.plainKeys == Try.prog.plainKeys) = true := by kernel_rfl
theorem c_k23 : Rows.fnReaderVectorReadsBackTwoWrittenVectorsRow.shortTexts.isNone = true := by kernel_rfl
theorem c_k26 : (Rows.fnReaderVectorReadsBackTwoWrittenVectorsRow.lifted == Try.prog.liftsFinal) = true := by rw [head_liftsFinal]; rfl
theorem c_k27 : (Try.prog.make == some Rows.fnReaderVectorReadsBackTwoWrittenVectorsRow.make) = true := by rw [head_make]; rfl
theorem c_k29 : (Rows.fnReaderVectorReadsBackTwoWrittenVectorsRow.pinned == Rows.fnReaderVectorReadsBackTwoWrittenVectorsRow.pinnedBy) = true := by kernel_rfl
theorem c_k30 : (Rows.fnReaderVectorReadsBackTwoWrittenVectorsRow.veiled == (Try.f4.params.toList ++ Rows.fnReaderVectorReadsBackTwoWrittenVectorsSpec.plain.varTypes Try.prog ++ Try.f4.resultTypes.toList).any (Try.prog.veiledRec ·)) = true := by kernel_rfl
theorem c_k31 : Rows.fnReaderVectorReadsBackTwoWrittenVectorsRow.veiledFits Try.prog Try.f4.params.toList (Try.f4.params.toList ++ Rows.fnReaderVectorReadsBackTwoWrittenVectorsSpec.plain.varTypes Try.prog ++ Try.f4.resultTypes.toList) = true := by kernel_rfl
theorem closed : joinedFacts Try.prog 4 Try.f4 Rows.fnReaderVectorReadsBackTwoWrittenVectorsSpec Rows.fnReaderVectorReadsBackTwoWrittenVectorsRow = true := joined_mk c_k0 prog_k1 prog_k2 c_k3 c_k4 c_k5 prog_k6 c_k7 prog_k8 c_k9 c_k10 c_k11 c_k12 c_k13 c_k14 c_k15 c_k16 c_k17 c_k18 c_k19 c_k20 c_k21 c_k22 c_k23 prog_k24 head_mayEnter c_k26 c_k27 ⟨rfl, rfl⟩ c_k29 c_k30 c_k31

theorem over : Rows.fnReaderVectorReadsBackTwoWrittenVectorsRow.holds Try.pinned (OpenSpec.ofChange Rows.fnReaderVectorReadsBackTwoWrittenVectorsSpec) :=
  OpenClaim.holds_of_wide 4 Try.f4 rfl rfl rfl rfl rfl rfl rfl ⟨rfl, rfl, rfl, rfl, rfl⟩ rfl rfl rfl rfl rfl (by kernel_rfl) Try.func4 closed
    (of_decide_eq_true (by kernel_rfl)) (by unfold Func.isWrapper; first | (rw [if_pos (by decide +kernel)]; kernel_rfl) | (rw [if_neg (by decide +kernel)]; exact ⟨rfl, rfl⟩))
    (fun os started H enc _ => lifted os started H enc)

/-- ████ THE STATEMENT ████ -/
theorem proved : Rows.FnReaderVectorReadsBackTwoWrittenVectorsSaid := over
end Go.Proofs.Qxb6615713a.fnReaderVectorReadsBackTwoWrittenVectors
