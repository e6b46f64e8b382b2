import Derived.Test.Qxb6605676aEng3
namespace Go.Proofs.Qxb6605676a.En
set_option linter.unusedVariables false
set_option linter.unusedSimpArgs false
open Go.RowKit Go.Proofs.Qxb6605676a.Mp Go.Proofs.Qxb6605676a.Tm
open Go.ChangeMaps (setBlock heap_setBlock_same)

section
variable {w : World} {mb rb nr : Nat} {rs : Array Value} {A C KB : List (Key × Value)} {LS SB : List ((ByteArray × ByteArray) × Value)}


set_option maxHeartbeats 4000000 in
set_option maxRecDepth 10000 in
theorem mayFire_cool (E : Eng w mb rb nr rs A C KB LS SB) (r l : Int) (s : ByteArray) (f : Int) (p : Nat) (ab ao : Nat) (since ts x : Int) 
    (hf : w.cell? ⟨rb, p + 3, none⟩ = some (.int .i64 f))
    (a1 : w.cell? ⟨ab, ao + 1, none⟩ = some (.int .u64 (since % 1000000000))) (a2 : w.cell? ⟨ab, ao + 2, none⟩ = some (.int .i64 (since / 1000000000))) (a3 : w.cell? ⟨ab, ao + 3, none⟩ = some (.pointer none))
    (hg : (get Key.same ⟨r, l, s⟩ C).getD (T 0) = T x) (hok : (get Key.same ⟨r, l, s⟩ C).isSome = true)
    (t1 : -4611686018427387904 ≤ ts) (t2 : ts ≤ 4611686018427387904) (s1 : -4611686018427387904 ≤ since) (s2 : since ≤ 4611686018427387904) (d1 : ts - since ≤ 9223372036854775807) (hfs : f ≤ ts - since) :
    Calls Try.prog 77 #[.pointer (some ⟨mb + 5, 0, none⟩), .agg #[.int .i64 r, .int .i64 l, .string s], .pointer (some ⟨rb, p, none⟩), .pointer (some ⟨ab, ao, none⟩), T ts] w fun e w' => e = .returned (.bool (!decide (ts < x))) ∧ Below w.heap.size w w' := by
  obtain ⟨_, _, _, c4, _, _⟩ := E.cells
  obtain ⟨es, clock, hes, hes2⟩ := E.cool
  have hlook : ∀ W : World, W.heap[mb + 2]? = some (.map es clock) → (Instr.lookup 116 (.map (some (mb + 2))) (.agg #[.int .i64 r, .int .i64 l, .string s]) true).run Try.prog W = .ok (.tuple #[.agg #[.int .u64 (x % 1000000000), .int .i64 (x / 1000000000), .pointer none], .bool true]) W := by
    intro W hW
    have h := (show MapIs W (mb + 2) kv C from ⟨es, clock, hW, hes2⟩).look keyTy134 Try.underlying116 zero67 ⟨r, l, s⟩ true
    rw [if_pos rfl, ← zero_T, hg, hok, T_def] at h
    exact h
  clear E hg hok hes2
  rw [T_def]
  have HS : Hid (∀ W : World, Calls Try.prog 75 #[.agg #[.int .u64 (ts % 1000000000), .int .i64 (ts / 1000000000), .pointer none], .agg #[.int .u64 (since % 1000000000), .int .i64 (since / 1000000000), .pointer none]] W fun e w' => e = .returned (.int .i64 (ts - since)) ∧ Below W.heap.size W w') := fun W => sub_any ts since W (by omega) (by omega) (by omega) (by omega) (by omega) (by omega)
  have HB : Hid (∀ W : World, Calls Try.prog 88 #[.agg #[.int .u64 (ts % 1000000000), .int .i64 (ts / 1000000000), .pointer none], .agg #[.int .u64 (x % 1000000000), .int .i64 (x / 1000000000), .pointer none]] W fun e w' => e = .returned (.bool (decide (ts < x))) ∧ Below W.heap.size W w') := fun W => before_any ts x W
  have q1 : ∀ o1 o2 o3, (((w.alloc o1).alloc o2).alloc o3).cell? ⟨ab, ao + 1, none⟩ = some (.int .u64 (since % 1000000000)) := fun _ _ _ => by simp (maxDischargeDepth := 8) [World.cell?_alloc_some, a1]
  have q2 : ∀ o1 o2 o3, (((w.alloc o1).alloc o2).alloc o3).cell? ⟨ab, ao + 2, none⟩ = some (.int .i64 (since / 1000000000)) := fun _ _ _ => by simp (maxDischargeDepth := 8) [World.cell?_alloc_some, a2]
  have q3 : ∀ o1 o2 o3, (((w.alloc o1).alloc o2).alloc o3).cell? ⟨ab, ao + 3, none⟩ = some (.pointer none) := fun _ _ _ => by simp (maxDischargeDepth := 8) [World.cell?_alloc_some, a3]
  have q4 : ∀ o1 o2 o3, (((w.alloc o1).alloc o2).alloc o3).cell? ⟨rb, p + 3, none⟩ = some (.int .i64 f) := fun _ _ _ => by simp (maxDischargeDepth := 8) [World.cell?_alloc_some, hf]
  clear t1 t2 s1 s2 d1
  go_enter Try.func77, Try.ntmps77
  go_wp2
  go_region_held3 (fun W => W.cell? ⟨mb + 5, 4, none⟩ = some (.map (some (mb + 2))) ∧ W.heap[mb + 2]? = some (.map es clock) ∧ W.cell? ⟨w.heap.size, 0, none⟩ = some (.int .i64 r) ∧ W.cell? ⟨w.heap.size, 1, none⟩ = some (.int .i64 l) ∧ W.cell? ⟨w.heap.size, 2, none⟩ = some (.string s)) (simp (maxDischargeDepth := 8) [*, World.cell?_alloc_some, World.cell?_setCell_far, heap_alloc_some, heap_setCell_map, heap_drew, isMapO_map]) (fail)
  all_goals
    clear hlook hes c4
    go_wp2
    go_region_held3 (fun W => W.cell? ⟨w.heap.size + 1, 0, none⟩ = some (.int .u64 (ts % 1000000000)) ∧ W.cell? ⟨w.heap.size + 1, 1, none⟩ = some (.int .i64 (ts / 1000000000)) ∧ W.cell? ⟨w.heap.size + 1, 2, none⟩ = some (.pointer none) ∧ W.cell? ⟨ab, ao + 1, none⟩ = some (.int .u64 (since % 1000000000)) ∧ W.cell? ⟨ab, ao + 2, none⟩ = some (.int .i64 (since / 1000000000)) ∧ W.cell? ⟨ab, ao + 3, none⟩ = some (.pointer none) ∧ W.cell? ⟨rb, p + 3, none⟩ = some (.int .i64 f) ∧ W.cell? ⟨w.heap.size + 1 + 1, 0, none⟩ = some (.int .u64 (x % 1000000000)) ∧ W.cell? ⟨w.heap.size + 1 + 1, 1, none⟩ = some (.int .i64 (x / 1000000000)) ∧ W.cell? ⟨w.heap.size + 1 + 1, 2, none⟩ = some (.pointer none)) ((repeat' apply And.intro) <;> (first | (go_simp; done) | (simp (maxDischargeDepth := 8) [*, World.cell?_alloc_some]; done))) (first | (go_at_call 75; refine (HS.out _).mono ?_; rintro e w1 ⟨rfl, hb1⟩; have kk1 := below_cell_some hb1) | (go_at_call 88; refine (HB.out _).mono ?_; rintro e w2 ⟨rfl, hb2⟩; have kk2 := below_cell_some hb2))
  all_goals
    go_wp2
    go_ret
    have z1 := hb1.size
    simp at z1
    exact ⟨rfl, (((allocs_below [_, _, _] w).drew.drew).trans (hb1.mono (by simp; omega))).trans (hb2.mono (by omega))⟩
end
end Go.Proofs.Qxb6605676a.En
