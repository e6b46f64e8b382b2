import Derived.Test.Qxb6605676aKz45
import Derived.Test.Qxb6605676aKz31
import Derived.Deep.RegionHeld3
namespace Go.Proofs.Qxb6605676a.Kz
set_option linter.unusedVariables false
set_option linter.unusedSimpArgs false
open Go.RowKit Go.Proofs.Qxb6605676a.Mp Go.Proofs.Qxb6605676a.Tm Go.Proofs.Qxb6605676a.En
noncomputable def body6 : Code := ((loopsOf (Try.f6.body.getD .skip))[0]?).getD .skip
theorem acR {W : World} {b p : Nat} {a : AcR} (h : W.rangeAt b p (acCells a)) : W.cell? ⟨b, p, none⟩ = some (.string a.rule) ∧ W.cell? ⟨b, p + 1, none⟩ = some (.string a.sev) ∧ W.cell? ⟨b, p + 2, none⟩ = some (.string a.state) ∧ W.cell? ⟨b, p + 3, none⟩ = some (.int .u64 (a.since % 1000000000)) ∧ W.cell? ⟨b, p + 4, none⟩ = some (.int .i64 (a.since / 1000000000)) ∧ W.cell? ⟨b, p + 5, none⟩ = some (.pointer none) ∧ W.cell? ⟨b, p + 6, none⟩ = some (.int .u64 (a.lts % 1000000000)) ∧ W.cell? ⟨b, p + 7, none⟩ = some (.int .i64 (a.lts / 1000000000)) ∧ W.cell? ⟨b, p + 8, none⟩ = some (.pointer none) ∧ W.cell? ⟨b, p + 9, none⟩ = some (.string a.sensor) ∧ W.cell? ⟨b, p + 10, none⟩ = some (.string a.metric) ∧ W.cell? ⟨b, p + 11, none⟩ = some (.float .f64 a.val) :=
  ⟨by simpa using h 0 _ rfl, h 1 _ rfl, h 2 _ rfl, h 3 _ rfl, h 4 _ rfl, h 5 _ rfl, h 6 _ rfl, h 7 _ rfl, h 8 _ rfl, h 9 _ rfl, h 10 _ rfl, h 11 _ rfl⟩
end Go.Proofs.Qxb6605676a.Kz
