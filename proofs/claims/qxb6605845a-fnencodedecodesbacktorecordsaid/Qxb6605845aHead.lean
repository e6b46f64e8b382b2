/-
  THE HEAD OF THE TRANSLATION, SIGN BY SIGN, AS NUMBERS: so that the kernel need not decode the text itself (by itself it takes a minute and nine gigabytes, three times a row).
-/
import Derived.Test.Qxb6605845aRows
import Derived.WalkKit
import Derived.ProofKit
import Derived.OpenShut
namespace Go.Proofs.Qxb6605845a.Head
set_option linter.unusedVariables false
set_option linter.unusedSimpArgs false

def nums : List Nat := [
  104, 97, 114, 110, 101, 115, 115, 32, 55, 99, 56, 102, 101, 101, 53, 99, 52, 98, 53, 99, 48, 57, 57, 51, 98, 100, 102, 56, 54, 98, 100, 53, 56, 56, 48, 102, 50, 99, 54, 55,
  48, 52, 52, 99, 57, 52, 97, 55, 57, 55, 98, 56, 101, 57, 50, 51, 52, 53, 52, 50, 53, 51, 52, 57, 48, 54, 50, 57, 56, 49, 52, 52, 32, 99, 117, 116, 32, 97, 116, 32,
  101, 120, 97, 109, 112, 108, 101, 46, 99, 111, 109, 47, 102, 97, 114, 115, 116, 97, 110, 100, 47, 102, 97, 114, 115, 116, 97, 110, 100, 47, 122, 122, 108, 97, 119, 115, 95, 105, 110, 116,
  101, 114, 110, 97, 108, 95, 116, 120, 110, 95, 98, 49, 46, 70, 110, 87, 114, 105, 116, 101, 76, 105, 115, 116, 83, 111, 114, 116, 115, 66, 121, 84, 97, 98, 108, 101, 84, 104, 101, 110,
  75, 101, 121, 32, 101, 120, 97, 109, 112, 108, 101, 46, 99, 111, 109, 47, 102, 97, 114, 115, 116, 97, 110, 100, 47, 102, 97, 114, 115, 116, 97, 110, 100, 47, 122, 122, 108, 97, 119, 115,
  95, 105, 110, 116, 101, 114, 110, 97, 108, 95, 116, 120, 110, 95, 98, 49, 46, 70, 110, 87, 114, 105, 116, 101, 76, 105, 115, 116, 73, 103, 110, 111, 114, 101, 115, 73, 110, 112, 117, 116,
  79, 114, 100, 101, 114, 32, 101, 120, 97, 109, 112, 108, 101, 46, 99, 111, 109, 47, 102, 97, 114, 115, 116, 97, 110, 100, 47, 102, 97, 114, 115, 116, 97, 110, 100, 47, 122, 122, 108, 97,
  119, 115, 95, 105, 110, 116, 101, 114, 110, 97, 108, 95, 116, 120, 110, 95, 98, 49, 46, 70, 110, 69, 110, 99, 111, 100, 101, 68, 101, 99, 111, 100, 101, 115, 66, 97, 99, 107, 84, 111,
  82, 101, 99, 111, 114, 100, 32, 101, 120, 97, 109, 112, 108, 101, 46, 99, 111, 109, 47, 102, 97, 114, 115, 116, 97, 110, 100, 47, 102, 97, 114, 115, 116, 97, 110, 100, 47, 122, 122, 108,
  97, 119, 115, 95, 105, 110, 116, 101, 114, 110, 97, 108, 95, 116, 120, 110, 95, 98, 49, 46, 70, 110, 69, 110, 99, 111, 100, 101, 69, 110, 100, 115, 76, 105, 115, 116, 115, 69, 118, 101,
  114, 121, 73, 68]
def signs : List Char := nums.map Char.ofNat

theorem head_eq : Try.prog.initOrder = String.ofList signs := by kernel_rfl
theorem head_list : Try.prog.initOrder.toList = signs := by rw [head_eq]; exact String.toList_ofList

theorem mayEnter_at (P : Program) (l : List Char) (h : P.initOrder.toList = l) (hl : P.laysLater = false) (hr : P.bearsReflect = false) (hw : behindMainWord (wordsSigns l) = behindMainWord (wordsSigns signs)) : P.mayEnter = P.doorFits [] := by
  unfold Program.mayEnter
  rw [h, hw, hl, hr]
  kernel_rfl
theorem laysLater_eq : Try.prog.laysLater = false := by kernel_rfl
theorem bearsReflect_eq : Try.prog.bearsReflect = false := by kernel_rfl
theorem doorFits_eq : Try.prog.doorFits [] = true := by kernel_rfl
theorem mayEnter_eq : Try.prog.mayEnter = true := (mayEnter_at _ _ head_list laysLater_eq bearsReflect_eq rfl).trans doorFits_eq
theorem make_at (P : Program) (l : List Char) (h : P.initOrder.toList = l) (hw : behindMainWord (wordsSigns l) = behindMainWord (wordsSigns signs)) : P.make = some .cut := by
  unfold Program.make
  rw [h, hw]
  kernel_rfl
theorem make_eq : Try.prog.make = some .cut := make_at _ _ head_list rfl
theorem headLifts_eq : Try.prog.headLifts = [] := by
  unfold Program.headLifts
  rw [head_list]
  kernel_rfl
theorem liftsFinal_eq : Try.prog.liftsFinal = false := by
  unfold Program.liftsFinal
  rw [head_list, headLifts_eq]
  kernel_rfl
theorem both {a b : Bool} (ha : a = true) (hb : b = true) : (a && b) = true := by rw [ha, hb]; rfl
theorem laidOut_eq : laidOutB Try.prog = true := by kernel_rfl
theorem mapsRowed_eq : mapsRowed Try.prog = true := by kernel_rfl
end Go.Proofs.Qxb6605845a.Head
