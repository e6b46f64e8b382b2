import Derived.Test.Qxb6605676aRm2
namespace Go.Proofs.Qxb6605676a.Rm
set_option linter.unusedVariables false
set_option linter.unusedSimpArgs false
open Go.RowKit Go.Proofs.Qxb6605676a.Mp Go.Proofs.Qxb6605676a.Tm Go.Proofs.Qxb6605676a.En
open Go.ChangeMaps (setBlock heap_setBlock_same)
attribute [local go_sem] run_store_float

set_option maxHeartbeats 4000000 in
theorem alarmFields_core (st ls lm : ByteArray) (lv : Nat) (cl : Bool) (since lts cs n1 m1 n2 m2 n3 m3 : Int) (b : Nat) (w : World)
    (N1 : Hid (∀ W : World, Calls Try.prog 33 #[.agg #[.int .u64 n1, .int .i64 m1, .pointer none]] W fun e w' => e = .returned (.int .i64 since) ∧ Below W.heap.size W w'))
    (N2 : Hid (∀ W : World, Calls Try.prog 33 #[.agg #[.int .u64 n2, .int .i64 m2, .pointer none]] W fun e w' => e = .returned (.int .i64 lts) ∧ Below W.heap.size W w'))
    (N3 : Hid (∀ W : World, Calls Try.prog 33 #[.agg #[.int .u64 n3, .int .i64 m3, .pointer none]] W fun e w' => e = .returned (.int .i64 cs) ∧ Below W.heap.size W w'))
    (h : w.heap[b]? = some (.cells #[.string st, .int .u64 n1, .int .i64 m1, .pointer none, .int .u64 n2, .int .i64 m2, .pointer none, .string ls, .string lm, .float .f64 lv, .bool cl, .int .u64 n3, .int .i64 m3, .pointer none] 136)) :
    Calls Try.prog 45 #[.pointer (some ⟨b, 0, none⟩)] w fun e w' => e = .returned (.tuple #[.string st, .int .i64 since, .int .i64 lts, .string ls, .string lm, .float .f64 lv, .bool cl, .int .i64 cs]) ∧ Below w.heap.size w w' := by
  have k0 : w.cell? ⟨b, 0, none⟩ = some (.string st) := by simp [World.cell?, h]
  have k1 : w.cell? ⟨b, 1, none⟩ = some (.int .u64 n1) := by simp [World.cell?, h]
  have k2 : w.cell? ⟨b, 2, none⟩ = some (.int .i64 m1) := by simp [World.cell?, h]
  have k3 : w.cell? ⟨b, 3, none⟩ = some (.pointer none) := by simp [World.cell?, h]
  have k4 : w.cell? ⟨b, 4, none⟩ = some (.int .u64 n2) := by simp [World.cell?, h]
  have k5 : w.cell? ⟨b, 5, none⟩ = some (.int .i64 m2) := by simp [World.cell?, h]
  have k6 : w.cell? ⟨b, 6, none⟩ = some (.pointer none) := by simp [World.cell?, h]
  have k7 : w.cell? ⟨b, 7, none⟩ = some (.string ls) := by simp [World.cell?, h]
  have k8 : w.cell? ⟨b, 8, none⟩ = some (.string lm) := by simp [World.cell?, h]
  have k9 : w.cell? ⟨b, 9, none⟩ = some (.float .f64 lv) := by simp [World.cell?, h]
  have k10 : w.cell? ⟨b, 10, none⟩ = some (.bool cl) := by simp [World.cell?, h]
  have k11 : w.cell? ⟨b, 11, none⟩ = some (.int .u64 n3) := by simp [World.cell?, h]
  have k12 : w.cell? ⟨b, 12, none⟩ = some (.int .i64 m3) := by simp [World.cell?, h]
  have k13 : w.cell? ⟨b, 13, none⟩ = some (.pointer none) := by simp [World.cell?, h]
  clear h
  go_enter Try.func45, Try.ntmps45
  go_wp2
  go_region_held3 (fun W => W.cell? ⟨b, 0, none⟩ = some (.string st) ∧ W.cell? ⟨b, 1, none⟩ = some (.int .u64 n1) ∧ W.cell? ⟨b, 2, none⟩ = some (.int .i64 m1) ∧ W.cell? ⟨b, 3, none⟩ = some (.pointer none) ∧ W.cell? ⟨b, 4, none⟩ = some (.int .u64 n2) ∧ W.cell? ⟨b, 5, none⟩ = some (.int .i64 m2) ∧ W.cell? ⟨b, 6, none⟩ = some (.pointer none) ∧ W.cell? ⟨b, 7, none⟩ = some (.string ls) ∧ W.cell? ⟨b, 8, none⟩ = some (.string lm) ∧ W.cell? ⟨b, 9, none⟩ = some (.float .f64 lv) ∧ W.cell? ⟨b, 10, none⟩ = some (.bool cl) ∧ W.cell? ⟨b, 11, none⟩ = some (.int .u64 n3) ∧ W.cell? ⟨b, 12, none⟩ = some (.int .i64 m3) ∧ W.cell? ⟨b, 13, none⟩ = some (.pointer none)) (simp (maxDischargeDepth := 8) [*]) (first | (go_at_call_of 33 (Value.int IntKind.u64 n1); refine (N1.out _).mono ?_; rintro e w1 ⟨rfl, hb1⟩; have kk1 := below_cell_some hb1) | (go_at_call_of 33 (Value.int IntKind.u64 n2); refine (N2.out _).mono ?_; rintro e w2 ⟨rfl, hb2⟩; have kk2 := below_cell_some hb2) | (go_at_call_of 33 (Value.int IntKind.u64 n3); refine (N3.out _).mono ?_; rintro e w3 ⟨rfl, hb3⟩; have kk3 := below_cell_some hb3))
  go_wp2
  have hb1' : Below w.heap.size w w1 := (Below.refl _ _).drew.trans hb1
  have z1 := hb1'.size
  have z2 := hb2.size
  exact bodyPost_ret (v := .tuple #[.string st, .int .i64 since, .int .i64 lts, .string ls, .string lm, .float .f64 lv, .bool cl, .int .i64 cs]) (by simp [results, Try.results45, go_sem]) rfl ⟨rfl, (hb1'.trans (hb2.mono z1)).trans (hb3.mono (by omega))⟩

theorem alarmFields_any (z : ZAl) (hz : z.Ok) (b : Nat) (w : World) (h : w.heap[b]? = some (.cells (alarmCells z) 136)) :
    Calls Try.prog 45 #[.pointer (some ⟨b, 0, none⟩)] w fun e w' => e = .returned (.tuple #[.string z.st, .int .i64 z.since, .int .i64 z.lts, .string z.ls, .string z.lm, .float .f64 z.lv, .bool z.cl, .int .i64 z.cs]) ∧ Below w.heap.size w w' :=
  alarmFields_core _ _ _ _ _ _ _ _ _ _ _ _ _ _ b w (fun W => zznanos_any z.since W hz.s1 hz.s2) (fun W => zznanos_any z.lts W hz.l1 hz.l2) (fun W => zznanos_any z.cs W hz.c1 hz.c2) h
end Go.Proofs.Qxb6605676a.Rm
