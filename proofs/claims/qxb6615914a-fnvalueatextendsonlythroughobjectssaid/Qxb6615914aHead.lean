/- THE PROGRAM's HEAD WORDS: the string 'initOrder' as a list of signs, without running 'String.toList' in the kernel (which is quadratic: 75 s and over 10 GB at 960 signs): by 'String.toList_ofList'. -/
import Derived.Test.Qxb6615914aRows
import Derived.JoinedOf
namespace Go.Proofs.Qxb6615914a

def headCodes : List Nat := [
  104, 97, 114, 110, 101, 115, 115, 32, 57, 98, 57, 48, 57, 54, 53, 48, 52, 50, 102, 97, 99, 101, 52, 53, 54, 51, 51, 100, 52, 53, 100, 98, 54, 49, 51, 99, 51, 56, 53, 49,
  54, 51, 99, 53, 48, 101, 101, 52, 52, 48, 52, 50, 102, 102, 52, 53, 49, 53, 102, 99, 53, 54, 57, 57, 56, 99, 101, 101, 98, 52, 56, 52, 32, 99, 117, 116, 32, 97, 116, 32,
  101, 120, 97, 109, 112, 108, 101, 46, 99, 111, 109, 47, 105, 97, 110, 117, 115, 47, 105, 97, 110, 117, 115, 47, 122, 122, 108, 97, 119, 115, 95, 105, 110, 116, 101, 114, 110, 97, 108, 95,
  118, 105, 101, 119, 95, 98, 49, 46, 70, 110, 86, 97, 108, 117, 101, 65, 116, 84, 114, 101, 101, 69, 120, 97, 99, 116, 32, 101, 120, 97, 109, 112, 108, 101, 46, 99, 111, 109, 47, 105,
  97, 110, 117, 115, 47, 105, 97, 110, 117, 115, 47, 122, 122, 108, 97, 119, 115, 95, 105, 110, 116, 101, 114, 110, 97, 108, 95, 118, 105, 101, 119, 95, 98, 49, 46, 70, 110, 86, 97, 108,
  117, 101, 65, 116, 69, 120, 116, 101, 110, 100, 115, 79, 110, 108, 121, 84, 104, 114, 111, 117, 103, 104, 79, 98, 106, 101, 99, 116, 115]

theorem head_eq : Try.prog.initOrder = String.ofList (headCodes.map Char.ofNat) := by kernel_rfl
theorem head_list : Try.prog.initOrder.toList = headCodes.map Char.ofNat := by rw [head_eq, String.toList_ofList]
theorem head_first : ((behindMainWord (wordsSigns (headCodes.map Char.ofNat))).head? == some "cut".toList) = true := by kernel_rfl

theorem head_cut : ∃ rest, behindMainWord (wordsSigns Try.prog.initOrder.toList) = "cut".toList :: rest := by
  rw [head_list]
  have h := head_first
  generalize behindMainWord (wordsSigns (headCodes.map Char.ofNat)) = l at h
  cases l with
  | nil => simp at h
  | cons a r =>
    refine ⟨r, ?_⟩
    simp only [List.head?_cons, beq_iff_eq, Option.some.injEq] at h
    rw [h]

/-! Over whatever program whose head is 'cut': nothing of the program is run here. -/
section
variable {P : Program} {rest : List (List Char)}
theorem cut_headLifts (h : behindMainWord (wordsSigns P.initOrder.toList) = "cut".toList :: rest) : P.headLifts = [] := by
  unfold Program.headLifts
  rw [h]
  rfl
theorem cut_make (h : behindMainWord (wordsSigns P.initOrder.toList) = "cut".toList :: rest) : P.make = some .cut := by
  unfold Program.make
  rw [h]
  rfl
theorem cut_liftsFinal (h : behindMainWord (wordsSigns P.initOrder.toList) = "cut".toList :: rest) : P.liftsFinal = false := by
  unfold Program.liftsFinal
  rw [h, cut_headLifts h]
  rfl
theorem cut_mayEnter (h : behindMainWord (wordsSigns P.initOrder.toList) = "cut".toList :: rest) (h1 : P.laysLater = false) (h2 : P.bearsReflect = false) (h3 : P.doorFits [] = true) : P.mayEnter = true := by
  unfold Program.mayEnter
  rw [h]
  have e : stripLifts liftWords ("cut".toList :: rest) = ([], "cut".toList :: rest) := rfl
  simp only [e, h1, h2, h3]
  rfl
end

theorem head_laysLater : Try.prog.laysLater = false := by kernel_rfl
theorem head_bearsReflect : Try.prog.bearsReflect = false := by kernel_rfl
theorem head_doorFits : Try.prog.doorFits [] = true := by kernel_rfl
theorem head_mayEnter : Try.prog.mayEnter = true := by
  obtain ⟨rest, h⟩ := head_cut
  exact cut_mayEnter h head_laysLater head_bearsReflect head_doorFits
theorem head_make : Try.prog.make = some .cut := by
  obtain ⟨rest, h⟩ := head_cut
  exact cut_make h
theorem head_liftsFinal : Try.prog.liftsFinal = false := by
  obtain ⟨rest, h⟩ := head_cut
  exact cut_liftsFinal h
end Go.Proofs.Qxb6615914a
