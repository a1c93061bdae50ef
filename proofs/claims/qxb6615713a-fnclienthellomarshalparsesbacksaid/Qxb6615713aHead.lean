/- THE PROGRAM's HEAD WORDS: the string 'initOrder' as a list of signs, without running 'String.toList' in the kernel (which is quadratic: 75 s and over 10 GB at 960 signs): by 'String.toList_ofList'. -/
import Derived.Test.Qxb6615713aRows
import Derived.JoinedOf
namespace Go.Proofs.Qxb6615713a

def headCodes : List Nat := [
  104, 97, 114, 110, 101, 115, 115, 32, 57, 55, 101, 48, 53, 57, 51, 55, 100, 50, 49, 56, 54, 56, 56, 99, 51, 97, 50, 51, 101, 49, 97, 49, 98, 102, 53, 52, 101, 100, 51, 56,
  102, 101, 50, 50, 98, 55, 99, 101, 50, 102, 97, 52, 98, 48, 52, 51, 56, 51, 98, 48, 101, 100, 53, 101, 51, 97, 51, 51, 99, 51, 54, 56, 32, 99, 117, 116, 32, 97, 116, 32,
  101, 120, 97, 109, 112, 108, 101, 46, 99, 111, 109, 47, 104, 117, 115, 104, 103, 114, 97, 109, 47, 104, 117, 115, 104, 103, 114, 97, 109, 47, 122, 122, 108, 97, 119, 115, 95, 105, 110, 116,
  101, 114, 110, 97, 108, 95, 104, 97, 110, 100, 115, 104, 97, 107, 101, 95, 98, 49, 46, 70, 110, 82, 101, 97, 100, 101, 114, 86, 101, 99, 116, 111, 114, 80, 97, 114, 115, 101, 84, 104,
  101, 110, 87, 114, 105, 116, 101, 71, 105, 118, 101, 115, 66, 97, 99, 107, 32, 101, 120, 97, 109, 112, 108, 101, 46, 99, 111, 109, 47, 104, 117, 115, 104, 103, 114, 97, 109, 47, 104, 117,
  115, 104, 103, 114, 97, 109, 47, 122, 122, 108, 97, 119, 115, 95, 105, 110, 116, 101, 114, 110, 97, 108, 95, 104, 97, 110, 100, 115, 104, 97, 107, 101, 95, 98, 49, 46, 70, 110, 82, 101,
  97, 100, 101, 114, 86, 101, 99, 116, 111, 114, 82, 101, 97, 100, 115, 66, 97, 99, 107, 84, 119, 111, 87, 114, 105, 116, 116, 101, 110, 86, 101, 99, 116, 111, 114, 115, 32, 101, 120, 97,
  109, 112, 108, 101, 46, 99, 111, 109, 47, 104, 117, 115, 104, 103, 114, 97, 109, 47, 104, 117, 115, 104, 103, 114, 97, 109, 47, 122, 122, 108, 97, 119, 115, 95, 105, 110, 116, 101, 114, 110,
  97, 108, 95, 104, 97, 110, 100, 115, 104, 97, 107, 101, 95, 98, 49, 46, 70, 110, 67, 108, 105, 101, 110, 116, 72, 101, 108, 108, 111, 77, 97, 114, 115, 104, 97, 108, 80, 97, 114, 115,
  101, 115, 66, 97, 99, 107, 32, 101, 120, 97, 109, 112, 108, 101, 46, 99, 111, 109, 47, 104, 117, 115, 104, 103, 114, 97, 109, 47, 104, 117, 115, 104, 103, 114, 97, 109, 47, 122, 122, 108,
  97, 119, 115, 95, 105, 110, 116, 101, 114, 110, 97, 108, 95, 104, 97, 110, 100, 115, 104, 97, 107, 101, 95, 98, 49, 46, 70, 110, 67, 108, 105, 101, 110, 116, 72, 101, 108, 108, 111, 77,
  97, 114, 115, 104, 97, 108, 67, 111, 110, 110, 101, 99, 116, 105, 111, 110, 73, 68, 65, 112, 112, 101, 110, 100, 115, 79, 110, 101, 69, 120, 116, 101, 110, 115, 105, 111, 110, 32, 101, 120,
  97, 109, 112, 108, 101, 46, 99, 111, 109, 47, 104, 117, 115, 104, 103, 114, 97, 109, 47, 104, 117, 115, 104, 103, 114, 97, 109, 47, 122, 122, 108, 97, 119, 115, 95, 105, 110, 116, 101, 114,
  110, 97, 108, 95, 104, 97, 110, 100, 115, 104, 97, 107, 101, 95, 98, 49, 46, 70, 110, 69, 110, 99, 114, 121, 112, 116, 101, 100, 69, 120, 116, 101, 110, 115, 105, 111, 110, 115, 77, 97,
  114, 115, 104, 97, 108, 73, 115, 69, 109, 112, 116, 121, 69, 120, 116, 101, 110, 115, 105, 111, 110, 66, 108, 111, 99, 107, 32, 101, 120, 97, 109, 112, 108, 101, 46, 99, 111, 109, 47, 104,
  117, 115, 104, 103, 114, 97, 109, 47, 104, 117, 115, 104, 103, 114, 97, 109, 47, 122, 122, 108, 97, 119, 115, 95, 105, 110, 116, 101, 114, 110, 97, 108, 95, 104, 97, 110, 100, 115, 104, 97,
  107, 101, 95, 98, 49, 46, 70, 110, 84, 114, 97, 110, 115, 99, 114, 105, 112, 116, 83, 117, 109, 73, 115, 72, 97, 115, 104, 79, 102, 65, 108, 108, 77, 101, 115, 115, 97, 103, 101, 115,
  87, 104, 101, 114, 101, 118, 101, 114, 72, 97, 115, 104, 67, 104, 111, 115, 101, 110, 32, 101, 120, 97, 109, 112, 108, 101, 46, 99, 111, 109, 47, 104, 117, 115, 104, 103, 114, 97, 109, 47,
  104, 117, 115, 104, 103, 114, 97, 109, 47, 122, 122, 108, 97, 119, 115, 95, 105, 110, 116, 101, 114, 110, 97, 108, 95, 104, 97, 110, 100, 115, 104, 97, 107, 101, 95, 98, 49, 46, 70, 110,
  84, 114, 97, 110, 115, 99, 114, 105, 112, 116, 83, 117, 109, 77, 105, 100, 119, 97, 121, 73, 115, 80, 114, 101, 102, 105, 120, 72, 97, 115, 104, 65, 110, 100, 76, 101, 97, 118, 101, 115,
  82, 117, 110, 110, 105, 110, 103, 72, 97, 115, 104]

theorem head_eq : Try.prog.initOrder = String.ofList (headCodes.map Char.ofNat) := by kernel_rfl
theorem head_list : Try.prog.initOrder.toList = headCodes.map Char.ofNat := by rw [head_eq, String.toList_ofList]
theorem head_first : ((behindMainWord (wordsSigns (headCodes.map Char.ofNat))).head? == some "cut".toList) = true := by kernel_rfl

theorem head_cut : ∃ rest, behindMainWord (wordsSigns Try.prog.initOrder.toList) = "cut".toList :: rest := by
  rw [head_list]
  have h := head_first
  generalize behindMainWord (wordsSigns (headCodes.map Char.ofNat)) = l at h
  cases l with
  | nil => simp at h
  | cons a r =>
    refine ⟨r, ?_⟩
    simp only [List.head?_cons, beq_iff_eq, Option.some.injEq] at h
    rw [h]

/-! Over whatever program whose head is 'cut': nothing of the program is run here. -/
section
variable {P : Program} {rest : List (List Char)}
theorem cut_headLifts (h : behindMainWord (wordsSigns P.initOrder.toList) = "cut".toList :: rest) : P.headLifts = [] := by
  unfold Program.headLifts
  rw [h]
  rfl
theorem cut_make (h : behindMainWord (wordsSigns P.initOrder.toList) = "cut".toList :: rest) : P.make = some .cut := by
  unfold Program.make
  rw [h]
  rfl
theorem cut_liftsFinal (h : behindMainWord (wordsSigns P.initOrder.toList) = "cut".toList :: rest) : P.liftsFinal = false := by
  unfold Program.liftsFinal
  rw [h, cut_headLifts h]
  rfl
theorem cut_mayEnter (h : behindMainWord (wordsSigns P.initOrder.toList) = "cut".toList :: rest) (h1 : P.laysLater = false) (h2 : P.bearsReflect = false) (h3 : P.doorFits [] = true) : P.mayEnter = true := by
  unfold Program.mayEnter
  rw [h]
  have e : stripLifts liftWords ("cut".toList :: rest) = ([], "cut".toList :: rest) := rfl
  simp only [e, h1, h2, h3]
  rfl
end

theorem head_laysLater : Try.prog.laysLater = false := by kernel_rfl
theorem head_bearsReflect : Try.prog.bearsReflect = false := by kernel_rfl
theorem head_doorFits : Try.prog.doorFits [] = true := by kernel_rfl
theorem head_mayEnter : Try.prog.mayEnter = true := by
  obtain ⟨rest, h⟩ := head_cut
  exact cut_mayEnter h head_laysLater head_bearsReflect head_doorFits
theorem head_make : Try.prog.make = some .cut := by
  obtain ⟨rest, h⟩ := head_cut
  exact cut_make h
theorem head_liftsFinal : Try.prog.liftsFinal = false := by
  obtain ⟨rest, h⟩ := head_cut
  exact cut_liftsFinal h
end Go.Proofs.Qxb6615713a
