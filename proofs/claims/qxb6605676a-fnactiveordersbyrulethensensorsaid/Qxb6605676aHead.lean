/-
  THE HEAD OF THE TRANSLATION, SIGN BY SIGN, AS NUMBERS: so that the kernel need not decode the text itself (by itself it takes a minute and nine gigabytes, three times a row).
-/
import Derived.Test.Qxb6605676aRows
import Derived.WalkKit
import Derived.ProofKit
import Derived.OpenShut
namespace Go.Proofs.Qxb6605676a.Head
set_option linter.unusedVariables false
set_option linter.unusedSimpArgs false

def nums : List Nat := [
  104, 97, 114, 110, 101, 115, 115, 32, 48, 50, 53, 98, 56, 101, 56, 56, 50, 99, 53, 50, 54, 56, 55, 49, 100, 102, 98, 51, 101, 100, 99, 50, 56, 97, 99, 49, 98, 102, 56, 99,
  54, 53, 51, 49, 55, 49, 102, 101, 53, 54, 51, 52, 51, 53, 51, 49, 52, 101, 102, 52, 51, 57, 99, 51, 50, 50, 50, 54, 54, 53, 100, 51, 32, 99, 117, 116, 32, 97, 116, 32,
  101, 120, 97, 109, 112, 108, 101, 46, 99, 111, 109, 47, 113, 117, 105, 101, 116, 98, 101, 108, 108, 47, 113, 117, 105, 101, 116, 98, 101, 108, 108, 47, 122, 122, 108, 97, 119, 115, 95, 97,
  108, 97, 114, 109, 95, 98, 49, 46, 70, 110, 65, 99, 116, 105, 118, 101, 76, 105, 115, 116, 115, 69, 97, 99, 104, 75, 101, 121, 65, 116, 73, 116, 115, 83, 101, 118, 101, 114, 105, 116,
  121, 32, 101, 120, 97, 109, 112, 108, 101, 46, 99, 111, 109, 47, 113, 117, 105, 101, 116, 98, 101, 108, 108, 47, 113, 117, 105, 101, 116, 98, 101, 108, 108, 47, 122, 122, 108, 97, 119, 115,
  95, 97, 108, 97, 114, 109, 95, 98, 49, 46, 70, 110, 65, 99, 116, 105, 118, 101, 79, 114, 100, 101, 114, 115, 66, 121, 82, 117, 108, 101, 84, 104, 101, 110, 83, 101, 110, 115, 111, 114,
  32, 101, 120, 97, 109, 112, 108, 101, 46, 99, 111, 109, 47, 113, 117, 105, 101, 116, 98, 101, 108, 108, 47, 113, 117, 105, 101, 116, 98, 101, 108, 108, 47, 122, 122, 108, 97, 119, 115, 95,
  97, 108, 97, 114, 109, 95, 98, 49, 46, 70, 110, 82, 101, 115, 116, 111, 114, 101, 75, 101, 101, 112, 115, 77, 97, 116, 99, 104, 105, 110, 103, 76, 101, 118, 101, 108, 115, 65, 110, 100,
  69, 110, 100, 115, 84, 104, 101, 82, 101, 115, 116, 32, 101, 120, 97, 109, 112, 108, 101, 46, 99, 111, 109, 47, 113, 117, 105, 101, 116, 98, 101, 108, 108, 47, 113, 117, 105, 101, 116, 98,
  101, 108, 108, 47, 122, 122, 108, 97, 119, 115, 95, 97, 108, 97, 114, 109, 95, 98, 49, 46, 70, 110, 82, 101, 115, 116, 111, 114, 101, 69, 110, 100, 115, 87, 104, 97, 116, 65, 99, 116,
  105, 118, 101, 68, 111, 101, 115, 78, 111, 116, 83, 104, 111, 119, 70, 105, 114, 105, 110, 103, 32, 101, 120, 97, 109, 112, 108, 101, 46, 99, 111, 109, 47, 113, 117, 105, 101, 116, 98, 101,
  108, 108, 47, 113, 117, 105, 101, 116, 98, 101, 108, 108, 47, 122, 122, 108, 97, 119, 115, 95, 97, 108, 97, 114, 109, 95, 98, 49, 46, 70, 110, 82, 101, 109, 101, 109, 98, 101, 114, 75,
  101, 101, 112, 115, 65, 67, 111, 112, 121, 79, 102, 72, 111, 119, 84, 104, 101, 75, 101, 121, 83, 116, 111, 111, 100, 32, 101, 120, 97, 109, 112, 108, 101, 46, 99, 111, 109, 47, 113, 117,
  105, 101, 116, 98, 101, 108, 108, 47, 113, 117, 105, 101, 116, 98, 101, 108, 108, 47, 122, 122, 108, 97, 119, 115, 95, 97, 108, 97, 114, 109, 95, 98, 49, 46, 70, 110, 82, 101, 109, 101,
  109, 98, 101, 114, 75, 101, 101, 112, 115, 84, 104, 101, 70, 105, 114, 115, 116, 83, 116, 97, 110, 100, 105, 110, 103, 32, 101, 120, 97, 109, 112, 108, 101, 46, 99, 111, 109, 47, 113, 117,
  105, 101, 116, 98, 101, 108, 108, 47, 113, 117, 105, 101, 116, 98, 101, 108, 108, 47, 122, 122, 108, 97, 119, 115, 95, 97, 108, 97, 114, 109, 95, 98, 49, 46, 70, 110, 77, 97, 121, 70,
  105, 114, 101, 70, 114, 111, 109, 84, 104, 101, 76, 97, 116, 101, 114, 79, 102, 68, 119, 101, 108, 108, 65, 110, 100, 67, 111, 111, 108, 100, 111, 119, 110, 32, 101, 120, 97, 109, 112, 108,
  101, 46, 99, 111, 109, 47, 113, 117, 105, 101, 116, 98, 101, 108, 108, 47, 113, 117, 105, 101, 116, 98, 101, 108, 108, 47, 122, 122, 108, 97, 119, 115, 95, 97, 108, 97, 114, 109, 95, 98,
  49, 46, 70, 110, 77, 97, 121, 70, 105, 114, 101, 72, 111, 110, 111, 117, 114, 115, 65, 82, 101, 115, 116, 111, 114, 101, 100, 67, 111, 111, 108, 100, 111, 119, 110]
def signs : List Char := nums.map Char.ofNat

theorem head_eq : Try.prog.initOrder = String.ofList signs := by kernel_rfl
theorem head_list : Try.prog.initOrder.toList = signs := by rw [head_eq]; exact String.toList_ofList

theorem mayEnter_at (P : Program) (l : List Char) (h : P.initOrder.toList = l) (hl : P.laysLater = false) (hr : P.bearsReflect = false) (hw : behindMainWord (wordsSigns l) = behindMainWord (wordsSigns signs)) : P.mayEnter = P.doorFits [] := by
  unfold Program.mayEnter
  rw [h, hw, hl, hr]
  kernel_rfl
theorem laysLater_eq : Try.prog.laysLater = false := by kernel_rfl
theorem bearsReflect_eq : Try.prog.bearsReflect = false := by kernel_rfl
theorem doorFits_eq : Try.prog.doorFits [] = true := by kernel_rfl
theorem mayEnter_eq : Try.prog.mayEnter = true := (mayEnter_at _ _ head_list laysLater_eq bearsReflect_eq rfl).trans doorFits_eq
theorem make_at (P : Program) (l : List Char) (h : P.initOrder.toList = l) (hw : behindMainWord (wordsSigns l) = behindMainWord (wordsSigns signs)) : P.make = some .cut := by
  unfold Program.make
  rw [h, hw]
  kernel_rfl
theorem make_eq : Try.prog.make = some .cut := make_at _ _ head_list rfl
theorem headLifts_eq : Try.prog.headLifts = [] := by
  unfold Program.headLifts
  rw [head_list]
  kernel_rfl
theorem liftsFinal_eq : Try.prog.liftsFinal = false := by
  unfold Program.liftsFinal
  rw [head_list, headLifts_eq]
  kernel_rfl
theorem both {a b : Bool} (ha : a = true) (hb : b = true) : (a && b) = true := by rw [ha, hb]; rfl
theorem laidOut_eq : laidOutB Try.prog = true := by kernel_rfl
theorem mapsRowed_eq : mapsRowed Try.prog = true := by kernel_rfl
end Go.Proofs.Qxb6605676a.Head
