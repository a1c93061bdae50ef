/-
  THE CLOSED FACTS FOR THE WALK OVER fmt.Sprintf AT THIS DUMP (after the kit's Label example, turned to this program): the stop's call, the one format of the road, what its two operands read as.
-/
import Derived.Test.Qxb6614548aFmtCards
import Derived.Stop.CallBack
import Derived.Stop.IfaceNil
import Derived.WalkKit
import Derived.WalkSpells
import GoSem.ClaimData
namespace Go.Proofs.Qxb6614548aFmt
open Go.RowKit Go.Extern.Stop Go.Stop Go.Extern
set_option linter.unusedSimpArgs false
set_option linter.unusedVariables false

theorem Tryf.call29 (args : Array Value) (w : World) : (callFunc 29 args).run Tryf.prog w = ((FmtStop.sprintf #[9, 76] #[9] args).run Tryf.prog w).andThen fun v w' => .ok (.value v) w' :=
  run_callFunc_extern Tryf.func29 (by kernel_rfl) (by kernel_rfl) (by kernel_rfl) (by kernel_rfl) args w

theorem Tryf.guard (name : String) (w : World) : (FmtStop.guard name).run Tryf.prog w = .ok () w := by kernel_rfl

/-- ", with %d more of the wrong shape under %s" -/
abbrev fBytes : List UInt8 := [44, 32, 119, 105, 116, 104, 32, 37, 100, 32, 109, 111, 114, 101, 32, 111, 102, 32, 116, 104, 101, 32, 119, 114, 111, 110, 103, 32, 115, 104, 97, 112, 101, 32, 117, 110, 100, 101, 114, 32, 37, 115]
theorem Tryf.fmt0 : FmtStop.printed? ⟨#[44, 32, 119, 105, 116, 104, 32, 37, 100, 32, 109, 111, 114, 101, 32, 111, 102, 32, 116, 104, 101, 32, 119, 114, 111, 110, 103, 32, 115, 104, 97, 112, 101, 32, 117, 110, 100, 101, 114, 32, 37, 115]⟩ 2 = some [(0, 100, false), (1, 115, false)] := by kernel_rfl
theorem Tryf.fmt0r (w : World) : (FmtDoors.printed ⟨#[44, 32, 119, 105, 116, 104, 32, 37, 100, 32, 109, 111, 114, 101, 32, 111, 102, 32, 116, 104, 101, 32, 119, 114, 111, 110, 103, 32, 115, 104, 97, 112, 101, 32, 117, 110, 100, 101, 114, 32, 37, 115]⟩ 2).run Tryf.prog w = .ok [(0, 100, false), (1, 115, false)] w := by kernel_rfl

def Tryf.shape3 : List UInt8 := [5, 3, 0, 0, 0, 0, 0, 0, 0, 105, 110, 116]
theorem Tryf.op3_100 (name : String) (x : Int) (w : World) : (FmtStop.operand name false 100 false (.iface 3 (.int .i64 x))).run Tryf.prog w = .ok (Tryf.shape3, Go.Extern.Stop.digits 8 (x % 2 ^ 64).toNat) w := by kernel_rfl
def Tryf.shape9 : List UInt8 := [12, 6, 0, 0, 0, 0, 0, 0, 0, 115, 116, 114, 105, 110, 103]
theorem Tryf.op9_115 (name : String) (x : ByteArray) (w : World) : (FmtStop.operand name false 115 false (.iface 9 (.string x))).run Tryf.prog w = .ok (Tryf.shape9, FmtStop.pack x.data.toList) w := by kernel_rfl

/-- WHAT fmt IS ASKED. -/
def fReading (n : Int) (key : List UInt8) : List (List UInt8) :=
  [[44, 32, 119, 105, 116, 104, 32, 37, 100, 32, 109, 111, 114, 101, 32, 111, 102, 32, 116, 104, 101, 32, 119, 114, 111, 110, 103, 32, 115, 104, 97, 112, 101, 32, 117, 110, 100, 101, 114, 32, 37, 115], Tryf.shape3, digits 8 (n % 18446744073709551616).toNat, Tryf.shape9, FmtStop.pack key]

/-- errors.New -/
theorem new_any (m : ByteArray) (w : World) : Calls Tryf.prog 24 #[.string m] w fun e w' => e = .returned (.iface 55 (.pointer (some ⟨w.heap.size, 0, none⟩))) ∧ w' = w.alloc (.cells #[.string m] 57) := by
  go_enter Tryf.func24, Tryf.ntmps24
  go_wp2
  go_ret
  exact ⟨rfl, rfl⟩

/-- (*errorString).Error -/
theorem error_any (m : ByteArray) (b : Nat) (w : World) (h : w.cell? ⟨b, 0, none⟩ = some (.string m)) : Calls Tryf.prog 64 #[.pointer (some ⟨b, 0, none⟩)] w fun e w' => e = .returned (.string m) ∧ w = w' := by
  go_enter Tryf.func64, Tryf.ntmps64
  go_wp2
  go_ret
  exact ⟨rfl, rfl⟩
end Go.Proofs.Qxb6614548aFmt
