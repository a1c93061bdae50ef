/-
  THE PROOF OF 'Rows.FnReaderVectorParseThenWriteGivesBackSaid': the frame is the one that the kit's tool wrote for this function; the walk lies in Qxb6615713aParse.
-/
import Derived.Test.Qxb6615713aParse
import Derived.Test.Qxb6615713aClosed
import Derived.WalkKit
import Derived.ProofKit
import Derived.OpenShut
import Derived.ShutString
import Derived.ChangeOld
import Derived.Below
namespace Go.Proofs.Qxb6615713a.fnReaderVectorParseThenWriteGivesBack
open Go.ChangeShapes Go.WideShapes Go.ChangeAt Go.RowKit
open Go.ChangeMaps (open_string shut_string)
set_option linter.unusedVariables false

theorem own : ownKnob Try.prog.godebug = none := by kernel_rfl
theorem laidOut : laidOutB Try.prog = true := by kernel_rfl

/-! ### THE ROW's STEP: WRITTEN OUT: LEAVE IT -/
set_option maxRecDepth 100000 in
theorem lifted (os : Os) (started : os.Started) (H : Type) (enc : TypeId × Value → H) :
    ReturnsInHanded {} Try.checked os 3 .any (Rows.fnReaderVectorParseThenWriteGivesBackSpec.pre6 enc Try.prog Try.f3 Rows.fnReaderVectorParseThenWriteGivesBackRow.domain false) (Rows.fnReaderVectorParseThenWriteGivesBackSpec.post enc Try.prog Try.f3 false true false false) := by
  refine returnsInHanded_of_change (C := Try.checked) own started (by kernel_rfl) Try.func3
    (ChangeSpec.witness6 (enc := enc) (C := Try.checked) false ⟨#[], #[.slice none 0 0, .bool false, .int .i64 0], []⟩ 8 (by kernel_rfl) (by kernel_rfl) (by kernel_rfl) (by kernel_rfl)) ?_
  intro W base args ds gs before hval0 hW hcnd _
  have hval : ∀ (j : Nat) t v, Try.f3.params[j]? = some t → args[j]? = some v → Value.okWide Try.prog W .any base t v := hval0
  have hW' := hW
  obtain ⟨p, q, hA0, hV, rfl, hfz, hnd⟩ := hW
  have hA : DataW.TrodAll enc Try.prog W 0 (fun _ => true) true Try.f3.params.toList args.toList ds p := hA0
  rw [Try.params3] at hA hval
  obtain ⟨v0, vs0, d0, ds0, p0, q0, hargs, rfl, rfl, h0, r0⟩ := trodAll_cons hA
  obtain ⟨v1, vs1, d1, ds1, p1, q1, rfl, rfl, rfl, h1, r1⟩ := trodAll_cons r0
  obtain ⟨v2, vs2, d2, ds2, p2, q2, rfl, rfl, rfl, h2, r2⟩ := trodAll_cons r1
  obtain ⟨rfl, rfl, rfl⟩ := trodAll_nil r2
  obtain rfl : args = #[v0, v1, v2] := by cases args; simp_all
  obtain ⟨rfl, rfl⟩ := trodVars_none hV
  obtain ⟨a0, len0, cap0, rfl⟩ := okWide_slice Try.underlying22 (hval 0 22 v0 rfl rfl)
  have k0 := h0
  have lt0 : ∀ x ∈ p0, x.block < W.heap.size := by obtain ⟨m, hm⟩ := k0; exact DataW.trod_lt m _ _ _ hm
  obtain ⟨z0, w0⟩ : ∃ zs, IsRow .u8 W a0 len0 cap0 zs := by
    obtain ⟨fuel, hf⟩ := h0
    rcases open_ints Try.underlying22 Try.underlying5 (by kernel_rfl) hf with ⟨hcs, _⟩ | ⟨x, l, c, zs, hcs, _, hl, hm, hz, _, hcell, hwz⟩
    · simp [Value.cells] at hcs
      obtain ⟨rfl, rfl, rfl⟩ := hcs
      exact ⟨[], .inl ⟨rfl, rfl, rfl, rfl⟩⟩
    · simp [Value.cells] at hcs
      obtain ⟨rfl, rfl, rfl⟩ := hcs
      exact ⟨zs, .inr ⟨_, rfl, hl, hm, by simpa using hz, hcell, hwz⟩⟩
  obtain ⟨a1, rfl, rfl, rfl⟩ := open_bool Try.underlying4 (hval 1 4 v1 rfl rfl) h1
  obtain ⟨a2, rfl, rfl, rfl, w2⟩ := open_int Try.underlying3 (hval 2 3 v2 rfl rfl) h2
  clear hA0 hval0
  refine (walk a0 len0 cap0 z0 a1 a2 W w0 w2).mono fun e W' ⟨he, bel⟩ => ?_
  subst he
  exact ⟨_, rfl, _, _, _, [], _, [], hW', trodAll_mk1 (shut_bool Try.underlying4 _), (trodAll_cons_mk (Below.trod laidOut (by kernel_rfl) (of_decide_eq_true (by kernel_rfl)) k0 bel lt0) (trodAll_cons_mk (shut_bool Try.underlying4 _) (trodAll_cons_mk (shut_int Try.underlying3 w2) trodAll_mk0))), rfl, bel.frame _, fun h => by cases h⟩

/-! ### THE CLOSED FACTS -/
theorem c_k0 : Rows.fnReaderVectorParseThenWriteGivesBackRow.wf (OpenSpec.ofChange Rows.fnReaderVectorParseThenWriteGivesBackSpec) = true := by kernel_rfl
theorem c_k3 : Try.f3.params.all (Try.prog.readableRec ·) = true := by kernel_rfl
theorem c_k4 : namedTie Try.prog Rows.fnReaderVectorParseThenWriteGivesBackRow.named Rows.fnReaderVectorParseThenWriteGivesBackSpec.vars = true := by kernel_rfl
theorem c_k5 : (Rows.fnReaderVectorParseThenWriteGivesBackRow.stops == []) = true := by kernel_rfl
theorem c_k7 : (Rows.fnReaderVectorParseThenWriteGivesBackRow.knobs == []) = true := by kernel_rfl
theorem c_k9 : (Rows.fnReaderVectorParseThenWriteGivesBackRow.inPlace == Try.prog.inPlace 3) = true := by kernel_rfl
theorem c_k10 : (Rows.fnReaderVectorParseThenWriteGivesBackRow.unfollowed == Try.prog.unfollowed 3) = true := by kernel_rfl
theorem c_k11 : (Rows.fnReaderVectorParseThenWriteGivesBackRow.recurses == Try.prog.recurses 3) = true := by kernel_rfl
theorem c_k12 : (Rows.fnReaderVectorParseThenWriteGivesBackRow.named == Try.prog.varsNamed 3) = true := by kernel_rfl
theorem c_k13 : (Rows.fnReaderVectorParseThenWriteGivesBackRow.maps == (Try.f3.params.toList ++ Rows.fnReaderVectorParseThenWriteGivesBackSpec.plain.varTypes Try.prog).any (Try.prog.mapsRec ·)) = true := by kernel_rfl
theorem c_k14 : (Rows.fnReaderVectorParseThenWriteGivesBackRow.ifaces == (Try.f3.params.toList ++ Rows.fnReaderVectorParseThenWriteGivesBackSpec.plain.varTypes Try.prog).any (Try.prog.ifacesRec ·)) = true := by kernel_rfl
theorem c_k15 : (Rows.fnReaderVectorParseThenWriteGivesBackRow.mapsOut == Try.prog.mapsAmong Try.f3.resultTypes.toList) = true := by kernel_rfl
theorem c_k16 : (Rows.fnReaderVectorParseThenWriteGivesBackRow.loops == (Try.f3.params.toList ++ Rows.fnReaderVectorParseThenWriteGivesBackSpec.plain.varTypes Try.prog).any (Try.prog.loopsFrom ·)) = true := by kernel_rfl
theorem c_k17 : (Rows.fnReaderVectorParseThenWriteGivesBackRow.wideKeys == (Try.f3.params.toList ++ Rows.fnReaderVectorParseThenWriteGivesBackSpec.plain.varTypes Try.prog ++ Try.f3.resultTypes.toList).any (Try.prog.wideKeysFrom ·)) = true := by kernel_rfl
theorem c_k18 : Rows.fnReaderVectorParseThenWriteGivesBackSpec.vars.all (Try.prog.varReadable ·) = true := by kernel_rfl
theorem c_k19 : Try.f3.resultTypes.all (fun t => Try.prog.readableRec t && decide (t < Try.prog.types.size)) = true := by kernel_rfl
theorem c_k20 : (Rows.fnReaderVectorParseThenWriteGivesBackRow.ifacesOut == Try.f3.resultTypes.toList.any (Try.prog.ifacesRec ·)) = true := by kernel_rfl
theorem c_k21 : (Rows.fnReaderVectorParseThenWriteGivesBackRow.loopsOut == Try.f3.resultTypes.toList.any (Try.prog.loopsFrom ·)) = true := by kernel_rfl
theorem c_k22 : (Rows.fnReaderVectorParseThenWriteGivesBackRow.plainKeys == Try.prog.plainKeys) = true := by kernel_rfl
theorem c_k23 : Rows.fnReaderVectorParseThenWriteGivesBackRow.shortTexts.isNone = true := by kernel_rfl
theorem c_k26 : (Rows.fnReaderVectorParseThenWriteGivesBackRow.lifted == Try.prog.liftsFinal) = true := by rw [head_liftsFinal]; rfl
theorem c_k27 : (Try.prog.make == some Rows.fnReaderVectorParseThenWriteGivesBackRow.make) = true := by rw [head_make]; rfl
theorem c_k29 : (Rows.fnReaderVectorParseThenWriteGivesBackRow.pinned == Rows.fnReaderVectorParseThenWriteGivesBackRow.pinnedBy) = true := by kernel_rfl
theorem c_k30 : (Rows.fnReaderVectorParseThenWriteGivesBackRow.veiled == (Try.f3.params.toList ++ Rows.fnReaderVectorParseThenWriteGivesBackSpec.plain.varTypes Try.prog ++ Try.f3.resultTypes.toList).any (Try.prog.veiledRec ·)) = true := by kernel_rfl
theorem c_k31 : Rows.fnReaderVectorParseThenWriteGivesBackRow.veiledFits Try.prog Try.f3.params.toList (Try.f3.params.toList ++ Rows.fnReaderVectorParseThenWriteGivesBackSpec.plain.varTypes Try.prog ++ Try.f3.resultTypes.toList) = true := by kernel_rfl
theorem closed : joinedFacts Try.prog 3 Try.f3 Rows.fnReaderVectorParseThenWriteGivesBackSpec Rows.fnReaderVectorParseThenWriteGivesBackRow = true := joined_mk c_k0 prog_k1 prog_k2 c_k3 c_k4 c_k5 prog_k6 c_k7 prog_k8 c_k9 c_k10 c_k11 c_k12 c_k13 c_k14 c_k15 c_k16 c_k17 c_k18 c_k19 c_k20 c_k21 c_k22 c_k23 prog_k24 head_mayEnter c_k26 c_k27 ⟨rfl, rfl⟩ c_k29 c_k30 c_k31

theorem over : Rows.fnReaderVectorParseThenWriteGivesBackRow.holds Try.pinned (OpenSpec.ofChange Rows.fnReaderVectorParseThenWriteGivesBackSpec) :=
  OpenClaim.holds_of_wide 3 Try.f3 rfl rfl rfl rfl rfl rfl rfl ⟨rfl, rfl, rfl, rfl, rfl⟩ rfl rfl rfl rfl rfl (by kernel_rfl) Try.func3 closed
    (of_decide_eq_true (by kernel_rfl)) (by unfold Func.isWrapper; first | (rw [if_pos (by decide +kernel)]; kernel_rfl) | (rw [if_neg (by decide +kernel)]; exact ⟨rfl, rfl⟩))
    (fun os started H enc _ => lifted os started H enc)

/-- ████ THE STATEMENT ████ -/
theorem proved : Rows.FnReaderVectorParseThenWriteGivesBackSaid := over
end Go.Proofs.Qxb6615713a.fnReaderVectorParseThenWriteGivesBack
