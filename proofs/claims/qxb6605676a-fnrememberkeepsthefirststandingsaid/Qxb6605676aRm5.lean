import Derived.Test.Qxb6605676aRm4
namespace Go.Proofs.Qxb6605676a.Rm
set_option linter.unusedVariables false
set_option linter.unusedSimpArgs false
open Go.RowKit Go.Proofs.Qxb6605676a.Mp Go.Proofs.Qxb6605676a.Tm Go.Proofs.Qxb6605676a.En
open Go.ChangeMaps (setBlock heap_setBlock_same)
attribute [local go_sem] run_store_float

section
variable {w : World} {mb rb nr : Nat} {rs : Array Value} {A C KB : List (Key × Value)} {LS SB : List ((ByteArray × ByteArray) × Value)}
set_option maxHeartbeats 4000000 in
set_option maxRecDepth 10000 in
/-- 'remember' at a key that is not recorded and has an alarm. -/
theorem remember_some (E : Eng w mb rb nr rs A C KB LS SB) (r l : Int) (s : ByteArray) (x : Int) (ok : Bool) (ab : Nat) (z : ZAl) (ha : w.heap[ab]? = some (.cells (alarmCells z) 136)) (hn : Mp.get Key.same ⟨r, l, s⟩ KB = none) (hg : (Mp.get Key.same ⟨r, l, s⟩ C).getD (T 0) = T x) (hok : (Mp.get Key.same ⟨r, l, s⟩ C).isSome = ok) :
    Calls Try.prog 76 #[.pointer (some ⟨mb + 5, 0, none⟩), .agg #[.int .i64 r, .int .i64 l, .string s], .pointer (some ⟨ab, 0, none⟩)] w fun e w' => e = .returned (.tuple #[]) ∧ w.grownBy w' (some (mb + 3)) ∧ MapIs w' (mb + 3) kv (put Key.same ⟨r, l, s⟩ (kb (some ⟨w.heap.size + 3, 0, none⟩) x ok) KB) ∧ w'.heap[w.heap.size + 3]? = some (.cells (alarmCells z) 136) := by
  obtain ⟨_, _, _, d4, d5, _⟩ := E.cells
  have hlt := E.lt
  have hcool := E.cool
  have hkeys := E.keys
  obtain ⟨es, clock, hes, hes2⟩ := E.keys
  obtain ⟨es', clock', hes', hes2'⟩ := E.cool
  have hlook : ∀ W : World, W.heap[mb + 3]? = some (.map es clock) → (Instr.lookup 117 (.map (some (mb + 3))) (.agg #[.int .i64 r, .int .i64 l, .string s]) true).run Try.prog W = .ok (.tuple #[.agg #[.pointer none, .int .u64 0, .int .i64 0, .pointer none, .bool false], .bool false]) W := by
    intro W hW
    have h := (show MapIs W (mb + 3) kv KB from ⟨es, clock, hW, hes2⟩).look keyTy134 Try.underlying117 zero172 ⟨r, l, s⟩ true
    rw [if_pos rfl, hn] at h
    exact h
  have hlook2 : ∀ W : World, W.heap[mb + 2]? = some (.map es' clock') → (Instr.lookup 116 (.map (some (mb + 2))) (.agg #[.int .i64 r, .int .i64 l, .string s]) true).run Try.prog W = .ok (.tuple #[.agg #[.int .u64 (x % 1000000000), .int .i64 (x / 1000000000), .pointer none], .bool ok]) W := by
    intro W hW
    have h := (show MapIs W (mb + 2) kv C from ⟨es', clock', hW, hes2'⟩).look keyTy134 Try.underlying116 zero67 ⟨r, l, s⟩ true
    rw [if_pos rfl, ← zero_T, hg, hok, T_def] at h
    exact h
  have j0 : w.cell? ⟨ab, 0, none⟩ = some (.string z.st) := by simp [World.cell?, ha, alarmCells]
  have k0 : ∀ o1 o2 o3, (((w.alloc o1).alloc o2).alloc o3).cell? ⟨ab, 0, none⟩ = some (.string z.st) := fun _ _ _ => by simp (maxDischargeDepth := 8) [World.cell?_alloc_some, j0]
  have j1 : w.cell? ⟨ab, 1, none⟩ = some (.int .u64 (z.since % 1000000000)) := by simp [World.cell?, ha, alarmCells]
  have k1 : ∀ o1 o2 o3, (((w.alloc o1).alloc o2).alloc o3).cell? ⟨ab, 1, none⟩ = some (.int .u64 (z.since % 1000000000)) := fun _ _ _ => by simp (maxDischargeDepth := 8) [World.cell?_alloc_some, j1]
  have j2 : w.cell? ⟨ab, 2, none⟩ = some (.int .i64 (z.since / 1000000000)) := by simp [World.cell?, ha, alarmCells]
  have k2 : ∀ o1 o2 o3, (((w.alloc o1).alloc o2).alloc o3).cell? ⟨ab, 2, none⟩ = some (.int .i64 (z.since / 1000000000)) := fun _ _ _ => by simp (maxDischargeDepth := 8) [World.cell?_alloc_some, j2]
  have j3 : w.cell? ⟨ab, 3, none⟩ = some (.pointer none) := by simp [World.cell?, ha, alarmCells]
  have k3 : ∀ o1 o2 o3, (((w.alloc o1).alloc o2).alloc o3).cell? ⟨ab, 3, none⟩ = some (.pointer none) := fun _ _ _ => by simp (maxDischargeDepth := 8) [World.cell?_alloc_some, j3]
  have j4 : w.cell? ⟨ab, 4, none⟩ = some (.int .u64 (z.lts % 1000000000)) := by simp [World.cell?, ha, alarmCells]
  have k4 : ∀ o1 o2 o3, (((w.alloc o1).alloc o2).alloc o3).cell? ⟨ab, 4, none⟩ = some (.int .u64 (z.lts % 1000000000)) := fun _ _ _ => by simp (maxDischargeDepth := 8) [World.cell?_alloc_some, j4]
  have j5 : w.cell? ⟨ab, 5, none⟩ = some (.int .i64 (z.lts / 1000000000)) := by simp [World.cell?, ha, alarmCells]
  have k5 : ∀ o1 o2 o3, (((w.alloc o1).alloc o2).alloc o3).cell? ⟨ab, 5, none⟩ = some (.int .i64 (z.lts / 1000000000)) := fun _ _ _ => by simp (maxDischargeDepth := 8) [World.cell?_alloc_some, j5]
  have j6 : w.cell? ⟨ab, 6, none⟩ = some (.pointer none) := by simp [World.cell?, ha, alarmCells]
  have k6 : ∀ o1 o2 o3, (((w.alloc o1).alloc o2).alloc o3).cell? ⟨ab, 6, none⟩ = some (.pointer none) := fun _ _ _ => by simp (maxDischargeDepth := 8) [World.cell?_alloc_some, j6]
  have j7 : w.cell? ⟨ab, 7, none⟩ = some (.string z.ls) := by simp [World.cell?, ha, alarmCells]
  have k7 : ∀ o1 o2 o3, (((w.alloc o1).alloc o2).alloc o3).cell? ⟨ab, 7, none⟩ = some (.string z.ls) := fun _ _ _ => by simp (maxDischargeDepth := 8) [World.cell?_alloc_some, j7]
  have j8 : w.cell? ⟨ab, 8, none⟩ = some (.string z.lm) := by simp [World.cell?, ha, alarmCells]
  have k8 : ∀ o1 o2 o3, (((w.alloc o1).alloc o2).alloc o3).cell? ⟨ab, 8, none⟩ = some (.string z.lm) := fun _ _ _ => by simp (maxDischargeDepth := 8) [World.cell?_alloc_some, j8]
  have j9 : w.cell? ⟨ab, 9, none⟩ = some (.float .f64 z.lv) := by simp [World.cell?, ha, alarmCells]
  have k9 : ∀ o1 o2 o3, (((w.alloc o1).alloc o2).alloc o3).cell? ⟨ab, 9, none⟩ = some (.float .f64 z.lv) := fun _ _ _ => by simp (maxDischargeDepth := 8) [World.cell?_alloc_some, j9]
  have j10 : w.cell? ⟨ab, 10, none⟩ = some (.bool z.cl) := by simp [World.cell?, ha, alarmCells]
  have k10 : ∀ o1 o2 o3, (((w.alloc o1).alloc o2).alloc o3).cell? ⟨ab, 10, none⟩ = some (.bool z.cl) := fun _ _ _ => by simp (maxDischargeDepth := 8) [World.cell?_alloc_some, j10]
  have j11 : w.cell? ⟨ab, 11, none⟩ = some (.int .u64 (z.cs % 1000000000)) := by simp [World.cell?, ha, alarmCells]
  have k11 : ∀ o1 o2 o3, (((w.alloc o1).alloc o2).alloc o3).cell? ⟨ab, 11, none⟩ = some (.int .u64 (z.cs % 1000000000)) := fun _ _ _ => by simp (maxDischargeDepth := 8) [World.cell?_alloc_some, j11]
  have j12 : w.cell? ⟨ab, 12, none⟩ = some (.int .i64 (z.cs / 1000000000)) := by simp [World.cell?, ha, alarmCells]
  have k12 : ∀ o1 o2 o3, (((w.alloc o1).alloc o2).alloc o3).cell? ⟨ab, 12, none⟩ = some (.int .i64 (z.cs / 1000000000)) := fun _ _ _ => by simp (maxDischargeDepth := 8) [World.cell?_alloc_some, j12]
  have j13 : w.cell? ⟨ab, 13, none⟩ = some (.pointer none) := by simp [World.cell?, ha, alarmCells]
  have k13 : ∀ o1 o2 o3, (((w.alloc o1).alloc o2).alloc o3).cell? ⟨ab, 13, none⟩ = some (.pointer none) := fun _ _ _ => by simp (maxDischargeDepth := 8) [World.cell?_alloc_some, j13]
  clear ha j0 j1 j2 j3 j4 j5 j6 j7 j8 j9 j10 j11 j12 j13
  obtain ⟨es3, clock3, hE3, hup⟩ := EntriesAre.store (hes2 : EntriesAre es clock kv KB) keyTy134 Try.underlying117 ⟨r, l, s⟩ (kb (some ⟨w.heap.size + 1 + 1 + 1, 0, none⟩) x ok)
  simp only [kb, kv] at hup
  have HE : Hid (EntriesAre es3 clock3 kv (put Key.same ⟨r, l, s⟩ (kb (some ⟨w.heap.size + 1 + 1 + 1, 0, none⟩) x ok) KB)) := hE3
  clear E hg hok hn hes2 hes2' hcool hkeys hE3
  go_enter Try.func76, Try.ntmps76
  go_wp2
  go_region_held3 (fun W => W.cell? ⟨mb + 5, 5, none⟩ = some (.map (some (mb + 3))) ∧ W.heap[mb + 3]? = some (.map es clock) ∧ W.cell? ⟨w.heap.size, 0, none⟩ = some (.int .i64 r) ∧ W.cell? ⟨w.heap.size, 1, none⟩ = some (.int .i64 l) ∧ W.cell? ⟨w.heap.size, 2, none⟩ = some (.string s)) (simp (maxDischargeDepth := 8) [*, World.cell?_alloc_some, World.cell?_setCell_far, heap_alloc_some, heap_setCell_map, heap_drew, isMapO_map]) (fail)
  all_goals
    go_wp2
    go_region_held3 (fun W => W.cell? ⟨mb + 5, 4, none⟩ = some (.map (some (mb + 2))) ∧ W.heap[mb + 2]? = some (.map es' clock') ∧ W.cell? ⟨w.heap.size, 0, none⟩ = some (.int .i64 r) ∧ W.cell? ⟨w.heap.size, 1, none⟩ = some (.int .i64 l) ∧ W.cell? ⟨w.heap.size, 2, none⟩ = some (.string s)) (simp (maxDischargeDepth := 8) [*, World.cell?_alloc_some, World.cell?_setCell_far, heap_alloc_some, heap_setCell_map, heap_drew, isMapO_map]) (fail)
  all_goals
    clear hlook hlook2 hes' d4 k0 k1 k2 k3 k4 k5 k6 k7 k8 k9 k10 k11 k12 k13
    have q5 : ∀ o1 o2 o3 o4, ((((w.alloc o1).alloc o2).alloc o3).alloc o4).cell? ⟨mb + 5, 5, none⟩ = some (.map (some (mb + 3))) := fun _ _ _ _ => by simp (maxDischargeDepth := 8) [World.cell?_alloc_some, d5]
    have qh : ∀ o1 o2 o3 o4, ((((w.alloc o1).alloc o2).alloc o3).alloc o4).heap[mb + 3]? = some (.map es clock) := fun _ _ _ _ => by simp (maxDischargeDepth := 8) [heap_alloc_some, hes]
    have qd := heap_drew
    clear d5 hes
    go_wp2
    go_region
  all_goals
    go_end0
    refine ⟨rfl, grown_set ((((allocs_below [_, _, _, _] w).drew).drew).drew) _ _, HE.out.at (setBlock_get (qh _ _ _ _) _), ?_⟩
    refine ((setBlock_grown _ (mb + 3) (.map es3 clock3)).block (w.heap.size + 3) (by simp) (fun e => by have := Option.some.inj e; omega)).trans ?_
    exact allocs_get w [_, _, _, _] 3 (by simp)
end
end Go.Proofs.Qxb6605676a.Rm
