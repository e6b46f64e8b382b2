import Derived.Test.Qxb6605676aKz25
import Derived.Test.Qxb6605676aKz27
import Derived.Test.Qxb6605676aKz17
import Derived.Test.Qxb6605676aKz10
import Derived.Deep.CutBlock
import Derived.Deep.RegionHeld3
namespace Go.Proofs.Qxb6605676a.Kz
set_option linter.unusedVariables false
set_option linter.unusedSimpArgs false
open Go.RowKit Go.Proofs.Qxb6605676a.Mp Go.Proofs.Qxb6605676a.Tm Go.Proofs.Qxb6605676a.En

/-- The reading of a transition that ends, as plain data. -/
def finRd (K : List ZK) (q : ZR) : Int × ByteArray × ByteArray × Nat := if lastTo (rdAt K q.rule q.sensor) K.length < 0 then (q.ts, q.sensor, q.metric, q.val)
  else ((K.getD (lastTo (rdAt K q.rule q.sensor) K.length).toNat noKey).lts, (K.getD (lastTo (rdAt K q.rule q.sensor) K.length).toNat noKey).sensor, (K.getD (lastTo (rdAt K q.rule q.sensor) K.length).toNat noKey).metric, (K.getD (lastTo (rdAt K q.rule q.sensor) K.length).toNat noKey).val)
theorem te_fin (K : List ZK) (q : ZR) : teCells K q = tcs q [.int .u64 ((finRd K q).1 % 1000000000), .int .i64 ((finRd K q).1 / 1000000000), .pointer none, .string (finRd K q).2.1, .string (finRd K q).2.2.1, .float .f64 (finRd K q).2.2.2] := by
  unfold teCells endRd finRd tcs
  split <;> rfl
theorem fin_ok (K : List ZK) (q : ZR) (hK : ∀ k ∈ K, ZK.Ok k) (hq : ZR.Ok q) : I64 (finRd K q).1 := by
  unfold finRd
  split
  · exact hq.ts
  · rename_i h
    have hlt := lastTo_lt (rdAt K q.rule q.sensor) K.length
    have ha : (lastTo (rdAt K q.rule q.sensor) K.length).toNat < K.length := by omega
    rw [getD_at K noKey _ ha]
    exact (hK _ (List.getElem_mem ha)).lts
theorem tcsR {W : World} {b p : Nat} {q : ZR} {x : Int} {s m : ByteArray} {v : Nat} (h : W.rangeAt b p (tcs q [.int .u64 (x % 1000000000), .int .i64 (x / 1000000000), .pointer none, .string s, .string m, .float .f64 v])) :
    W.cell? ⟨b, p, none⟩ = some (.string q.rule) ∧ W.cell? ⟨b, p + 1, none⟩ = some (.string q.sev) ∧ W.cell? ⟨b, p + 2, none⟩ = some (.string ⟨#[82, 69, 83, 79, 76, 86, 69, 68]⟩) ∧ W.cell? ⟨b, p + 3, none⟩ = some (.int .u64 (x % 1000000000)) ∧ W.cell? ⟨b, p + 4, none⟩ = some (.int .i64 (x / 1000000000)) ∧ W.cell? ⟨b, p + 5, none⟩ = some (.pointer none) ∧ W.cell? ⟨b, p + 6, none⟩ = some (.string s) ∧ W.cell? ⟨b, p + 7, none⟩ = some (.string m) ∧ W.cell? ⟨b, p + 8, none⟩ = some (.float .f64 v) ∧ W.cell? ⟨b, p + 9, none⟩ = some (.int .u64 (q.raised % 1000000000)) ∧ W.cell? ⟨b, p + 10, none⟩ = some (.int .i64 (q.raised / 1000000000)) ∧ W.cell? ⟨b, p + 11, none⟩ = some (.pointer none) ∧ W.cell? ⟨b, p + 12, none⟩ = some (.bool false) :=
  ⟨by simpa using h 0 _ rfl, h 1 _ rfl, h 2 _ rfl, h 3 _ rfl, h 4 _ rfl, h 5 _ rfl, h 6 _ rfl, h 7 _ rfl, h 8 _ rfl, h 9 _ rfl, h 10 _ rfl, h 11 _ rfl, h 12 _ rfl⟩
theorem nanosI (x : Int) (W : World) (h : I64 x) : Calls Try.prog 33 #[.agg #[.int .u64 (x % 1000000000), .int .i64 (x / 1000000000), .pointer none]] W fun e w' => e = .returned (.int .i64 x) ∧ Below W.heap.size W w' := by
  have := zznanos_any x W h.1 h.2
  rw [T_def] at this
  exact this

noncomputable def body30 : Code := ((loopsOf (Try.f30.body.getD .skip))[0]?).getD .skip
theorem lastTo_max' (p : Nat → Bool) : ∀ (n k : Nat), k < n → p k = true → (k : Int) ≤ lastTo p n
  | 0, k, h, _ => by omega
  | n + 1, k, h, hp => by
    unfold lastTo
    by_cases hn : p n = true
    · rw [if_pos hn]; omega
    · rw [if_neg hn]
      have : k ≠ n := fun e => hn (e ▸ hp)
      exact lastTo_max' p n k (by omega) hp
end Go.Proofs.Qxb6605676a.Kz
