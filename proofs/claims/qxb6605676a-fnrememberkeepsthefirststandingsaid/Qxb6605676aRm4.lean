import Derived.Test.Qxb6605676aRm2
import Derived.Test.Qxb6605676aMaps4
namespace Go.Proofs.Qxb6605676a.Rm
set_option linter.unusedVariables false
set_option linter.unusedSimpArgs false
open Go.RowKit Go.Proofs.Qxb6605676a.Mp Go.Proofs.Qxb6605676a.Tm Go.Proofs.Qxb6605676a.En
open Go.ChangeMaps (setBlock heap_setBlock_same)
attribute [local go_sem] run_store_float

/-- How a key stood: the alarm's pointer, the cooldown's end, whether it cools. -/
def kb (p : Option Addr) (x : Int) (c : Bool) : Value := .agg #[.pointer p, .int .u64 (x % 1000000000), .int .i64 (x / 1000000000), .pointer none, .bool c]

theorem zero172 (w : World) : (zeroValue 172).run Try.prog w = .ok (kb none 0 false) w := by kernel_rfl

section
variable {w : World} {mb rb nr : Nat} {rs : Array Value} {A C KB : List (Key × Value)} {LS SB : List ((ByteArray × ByteArray) × Value)}

set_option maxHeartbeats 4000000 in
set_option maxRecDepth 10000 in
/-- 'remember' at a key that is recorded already. -/
theorem remember_again (E : Eng w mb rb nr rs A C KB LS SB) (r l : Int) (s : ByteArray) (p p0 : Option Addr) (x0 : Int) (c0 : Bool) (hg : (Mp.get Key.same ⟨r, l, s⟩ KB) = some (kb p0 x0 c0)) :
    Calls Try.prog 76 #[.pointer (some ⟨mb + 5, 0, none⟩), .agg #[.int .i64 r, .int .i64 l, .string s], .pointer p] w fun e w' => e = .returned (.tuple #[]) ∧ Below w.heap.size w w' := by
  obtain ⟨_, _, _, _, d5, _⟩ := E.cells
  obtain ⟨es, clock, hes, hes2⟩ := E.keys
  have hlook : ∀ W : World, W.heap[mb + 3]? = some (.map es clock) → (Instr.lookup 117 (.map (some (mb + 3))) (.agg #[.int .i64 r, .int .i64 l, .string s]) true).run Try.prog W = .ok (.tuple #[.agg #[.pointer p0, .int .u64 (x0 % 1000000000), .int .i64 (x0 / 1000000000), .pointer none, .bool c0], .bool true]) W := by
    intro W hW
    have h := (show MapIs W (mb + 3) kv KB from ⟨es, clock, hW, hes2⟩).look keyTy134 Try.underlying117 zero172 ⟨r, l, s⟩ true
    rw [if_pos rfl, hg] at h
    exact h
  clear E hg hes2
  go_enter Try.func76, Try.ntmps76
  go_wp2
  go_region_held3 (fun W => W.cell? ⟨mb + 5, 5, none⟩ = some (.map (some (mb + 3))) ∧ W.heap[mb + 3]? = some (.map es clock) ∧ W.cell? ⟨w.heap.size, 0, none⟩ = some (.int .i64 r) ∧ W.cell? ⟨w.heap.size, 1, none⟩ = some (.int .i64 l) ∧ W.cell? ⟨w.heap.size, 2, none⟩ = some (.string s)) (simp (maxDischargeDepth := 8) [*, World.cell?_alloc_some, World.cell?_setCell_far, heap_alloc_some, heap_setCell_map, heap_drew, isMapO_map]) (fail)
  all_goals
    go_wp2
    exact bodyPost_ret (v := .tuple #[]) (by simp [results, Try.results76, go_sem]) rfl ⟨rfl, (allocs_below [_, _] w).drew⟩

set_option maxHeartbeats 4000000 in
set_option maxRecDepth 10000 in
/-- 'remember' at a key that is not recorded and stands OK. -/
theorem remember_nil (E : Eng w mb rb nr rs A C KB LS SB) (r l : Int) (s : ByteArray) (x : Int) (ok : Bool) (hn : Mp.get Key.same ⟨r, l, s⟩ KB = none) (hg : (Mp.get Key.same ⟨r, l, s⟩ C).getD (T 0) = T x) (hok : (Mp.get Key.same ⟨r, l, s⟩ C).isSome = ok) :
    Calls Try.prog 76 #[.pointer (some ⟨mb + 5, 0, none⟩), .agg #[.int .i64 r, .int .i64 l, .string s], .pointer none] w fun e w' => e = .returned (.tuple #[]) ∧ w.grownBy w' (some (mb + 3)) ∧ MapIs w' (mb + 3) kv (put Key.same ⟨r, l, s⟩ (kb none x ok) KB) := by
  obtain ⟨_, _, _, d4, d5, _⟩ := E.cells
  have hlt := E.lt
  have hcool := E.cool
  have hkeys := E.keys
  obtain ⟨es, clock, hes, hes2⟩ := E.keys
  obtain ⟨es', clock', hes', hes2'⟩ := E.cool
  have hlook : ∀ W : World, W.heap[mb + 3]? = some (.map es clock) → (Instr.lookup 117 (.map (some (mb + 3))) (.agg #[.int .i64 r, .int .i64 l, .string s]) true).run Try.prog W = .ok (.tuple #[.agg #[.pointer none, .int .u64 0, .int .i64 0, .pointer none, .bool false], .bool false]) W := by
    intro W hW
    have h := (show MapIs W (mb + 3) kv KB from ⟨es, clock, hW, hes2⟩).look keyTy134 Try.underlying117 zero172 ⟨r, l, s⟩ true
    rw [if_pos rfl, hn] at h
    exact h
  have hlook2 : ∀ W : World, W.heap[mb + 2]? = some (.map es' clock') → (Instr.lookup 116 (.map (some (mb + 2))) (.agg #[.int .i64 r, .int .i64 l, .string s]) true).run Try.prog W = .ok (.tuple #[.agg #[.int .u64 (x % 1000000000), .int .i64 (x / 1000000000), .pointer none], .bool ok]) W := by
    intro W hW
    have h := (show MapIs W (mb + 2) kv C from ⟨es', clock', hW, hes2'⟩).look keyTy134 Try.underlying116 zero67 ⟨r, l, s⟩ true
    rw [if_pos rfl, ← zero_T, hg, hok, T_def] at h
    exact h
  obtain ⟨es3, clock3, hE3, hup⟩ := EntriesAre.store (hes2 : EntriesAre es clock kv KB) keyTy134 Try.underlying117 ⟨r, l, s⟩ (kb none x ok)
  simp only [kb, kv] at hup
  have HE : Hid (EntriesAre es3 clock3 kv (put Key.same ⟨r, l, s⟩ (kb none x ok) KB)) := hE3
  clear E hg hok hn hes2 hes2' hcool hkeys hE3
  go_enter Try.func76, Try.ntmps76
  go_wp2
  go_region_held3 (fun W => W.cell? ⟨mb + 5, 5, none⟩ = some (.map (some (mb + 3))) ∧ W.heap[mb + 3]? = some (.map es clock) ∧ W.cell? ⟨w.heap.size, 0, none⟩ = some (.int .i64 r) ∧ W.cell? ⟨w.heap.size, 1, none⟩ = some (.int .i64 l) ∧ W.cell? ⟨w.heap.size, 2, none⟩ = some (.string s)) (simp (maxDischargeDepth := 8) [*, World.cell?_alloc_some, World.cell?_setCell_far, heap_alloc_some, heap_setCell_map, heap_drew, isMapO_map]) (fail)
  all_goals
    go_wp2
    go_region_held3 (fun W => W.cell? ⟨mb + 5, 4, none⟩ = some (.map (some (mb + 2))) ∧ W.heap[mb + 2]? = some (.map es' clock') ∧ W.cell? ⟨w.heap.size, 0, none⟩ = some (.int .i64 r) ∧ W.cell? ⟨w.heap.size, 1, none⟩ = some (.int .i64 l) ∧ W.cell? ⟨w.heap.size, 2, none⟩ = some (.string s)) (simp (maxDischargeDepth := 8) [*, World.cell?_alloc_some, World.cell?_setCell_far, heap_alloc_some, heap_setCell_map, heap_drew, isMapO_map]) (fail)
  all_goals
    clear hlook hlook2 hes' d4
    have q5 : ∀ o1 o2 o3, (((w.alloc o1).alloc o2).alloc o3).cell? ⟨mb + 5, 5, none⟩ = some (.map (some (mb + 3))) := fun _ _ _ => by simp (maxDischargeDepth := 8) [World.cell?_alloc_some, d5]
    have qh : ∀ o1 o2 o3, (((w.alloc o1).alloc o2).alloc o3).heap[mb + 3]? = some (.map es clock) := fun _ _ _ => by simp (maxDischargeDepth := 8) [heap_alloc_some, hes]
    have qd := heap_drew
    clear d5 hes
    go_wp2
    go_region
  all_goals
    go_end0
    exact ⟨rfl, grown_set ((((allocs_below [_, _, _] w).drew).drew).drew) _ _, HE.out.at (setBlock_get (qh _ _ _) _)⟩
end
end Go.Proofs.Qxb6605676a.Rm
