import Derived.Test.Qxb6605676aRm1
namespace Go.Proofs.Qxb6605676a.Rm
set_option linter.unusedVariables false
set_option linter.unusedSimpArgs false
open Go.RowKit Go.Proofs.Qxb6605676a.Mp Go.Proofs.Qxb6605676a.Tm Go.Proofs.Qxb6605676a.En
open Go.ChangeMaps (setBlock heap_setBlock_same)
attribute [local go_sem] run_store_float

set_option maxHeartbeats 400000 in
set_option maxRecDepth 10000 in
theorem zzengine1_any (n m s0 : ByteArray) (f : Int) (w : World) :
    Calls Try.prog 37 #[.string n, .string m, .string s0, .int .i64 f] w fun e w' => e = .returned (.pointer (some ⟨w.heap.size + 9, 0, none⟩)) ∧ Below w.heap.size w w' ∧
      Eng w' (w.heap.size + 4) (w.heap.size + 1) 1 #[.string n, .string m, .slice (some ⟨w.heap.size, 0, none⟩) 1 1, .int .i64 f, .int .i64 0, .int .i64 0] [] [] [] [] [] ∧
      w'.heap[w.heap.size]? = some (.cells #[.string s0, .string ⟨#[]⟩, .float .f64 0, .float .f64 0] 131) := by
  have hmm := @run_makeMap Try.prog
  have hins := ins_made
  go_enter Try.func37, Try.ntmps37
  go_wp2_with (go_at_call 67; refine (zzengine_any _ _ _ _ _).mono ?_; rintro e w1 ⟨rfl, hb, hz, he, hm⟩)
  go_ret
  have hb' : Below w.heap.size w w1 := (allocs_below [_, _, _, _] w).trans (hb.mono (by simp; omega))
  have zz : (((((w.alloc
    (Obj.cells #[Value.string s0, Value.string { data := #[] }, Value.float FloatKind.f64 0, Value.float FloatKind.f64 0] 131)).alloc
    (Obj.cells #[Value.string n, Value.string m, Value.slice (some { block := w.heap.size, off := 0 }) 1 1, Value.int IntKind.i64 f, Value.int IntKind.i64 0, Value.int IntKind.i64 0] 124)).alloc
    (Obj.map #[{ key := Value.string m, val := Value.slice (some { block := w.heap.size + 1 + 1 + 1, off := 0 }) 1 1, born := 0 }] 1)).alloc (Obj.cells #[Value.int IntKind.i64 0] 3)).heap.size) = w.heap.size + 4 := by simp
  rw [zz] at hm he hb hz
  refine ⟨rfl, hb', ⟨by omega, ⟨_, he⟩, ?_, map_made (hm 0 (by omega)), map_made (hm 1 (by omega)), map_made (hm 2 (by omega)), map_made (hm 3 (by omega)), map_made (hm 4 (by omega))⟩, ?_⟩
  · rw [hb.block _ (by omega)]; exact allocs_get w [_, _, _, _] 1 (by simp)
  · rw [hb.block _ (by omega)]; exact allocs_get w [_, _, _, _] 0 (by simp)

theorem noAlarm (w : World) : Calls Try.prog 39 #[] w fun e w' => e = .returned (.pointer none) ∧ w = w' := by
  go_enter Try.func39, Try.ntmps39
  go_wp2
  go_ret
  exact ⟨rfl, rfl⟩

set_option maxHeartbeats 400000 in
theorem zzreading_any (x : Int) (s m : ByteArray) (v : Nat) (w : World) (hx : -9223372036854775808 ≤ x) (hx' : x ≤ 9223372036854775807) :
    Calls Try.prog 60 #[.int .i64 x, .string s, .string m, .float .f64 v] w fun e w' => e = .returned (.agg #[.int .u64 (x % 1000000000), .int .i64 (x / 1000000000), .pointer none, .string s, .string m, .float .f64 v]) ∧ Below w.heap.size w w' := by
  have HT : Hid (∀ W : World, Calls Try.prog 55 #[.int .i64 x] W fun e w' => e = .returned (.agg #[.int .u64 (x % 1000000000), .int .i64 (x / 1000000000), .pointer none]) ∧ Below W.heap.size W w') := fun W => zztime_any x W hx hx'
  go_enter Try.func60, Try.ntmps60
  go_wp2_with (go_at_call 55; refine (HT.out _).mono ?_; rintro e w1 ⟨rfl, hb1⟩; obtain ⟨hc1, hf1⟩ := bcell hb1; have z1 := hb1.size; simp at z1)
  refine bodyPost_ret (v := .agg #[.int .u64 (x % 1000000000), .int .i64 (x / 1000000000), .pointer none, .string s, .string m, .float .f64 v]) (by simp [results, Try.results60, go_sem, hc1, z1]) rfl ⟨rfl, ?_⟩
  exact (((((((Below.refl _ _).alloc (Nat.le_refl _) _).trans (hb1.mono (by simp))).setCell (by simp) _).setCell (by simp) _).setCell (by simp) _).setCell (by simp) _).setCell (by simp) _ |>.setCell (by simp) _

set_option maxHeartbeats 400000 in
theorem newAlarm_any (z : ZAl) (hz : z.Ok) (w : World) :
    Calls Try.prog 40 #[.string z.st, .int .i64 z.since, .int .i64 z.lts, .string z.ls, .string z.lm, .float .f64 z.lv, .bool z.cl, .int .i64 z.cs] w fun e w' =>
      ∃ b, w.heap.size ≤ b ∧ e = .returned (.pointer (some ⟨b, 0, none⟩)) ∧ Below w.heap.size w w' ∧ w'.heap[b]? = some (.cells (alarmCells z) 136) := by
  obtain ⟨s1, s2, l1, l2, c1, c2⟩ := hz
  have H1 : Hid (∀ W : World, Calls Try.prog 55 #[.int .i64 z.since] W fun e w' => e = .returned (.agg #[.int .u64 (z.since % 1000000000), .int .i64 (z.since / 1000000000), .pointer none]) ∧ Below W.heap.size W w') := fun W => zztime_any z.since W s1 s2
  have H2 : Hid (∀ W : World, Calls Try.prog 55 #[.int .i64 z.cs] W fun e w' => e = .returned (.agg #[.int .u64 (z.cs % 1000000000), .int .i64 (z.cs / 1000000000), .pointer none]) ∧ Below W.heap.size W w') := fun W => zztime_any z.cs W c1 c2
  go_enter Try.func40, Try.ntmps40
  go_wp2_with (first | (go_at_call_of 55 (Value.int IntKind.i64 z.since); refine (H1.out _).mono ?_; rintro e w1 ⟨rfl, hb1⟩) | (go_at_call 60; refine (zzreading_any _ _ _ _ _ l1 l2).mono ?_; rintro e w2 ⟨rfl, hb2⟩) | (go_at_call_of 55 (Value.int IntKind.i64 z.cs); refine (H2.out _).mono ?_; rintro e w3 ⟨rfl, hb3⟩))
  go_ret
  have z1 := hb1.size
  have z2 := hb2.size
  have z3 := hb3.size
  refine ⟨w3.heap.size, by omega, rfl, ?_, ?_⟩
  · exact ((hb1.trans (hb2.mono z1)).trans (hb3.mono (by omega))).alloc (by omega) _
  · exact allocs_get w3 [_] 0 (by simp)

set_option maxHeartbeats 400000 in
theorem fieldsAre_any (z : ZAl) (b o : Nat) (w : World) (h : ZAt w b o z) :
    Calls Try.prog 46 #[.string z.st, .int .i64 z.since, .int .i64 z.lts, .string z.ls, .string z.lm, .float .f64 z.lv, .bool z.cl, .int .i64 z.cs, .pointer (some ⟨b, o, none⟩)] w fun e w' => e = .returned (.bool true) ∧ w' = w := by
  obtain ⟨c0, c1, c2, c3, c4, c5, c6, c7⟩ := h
  go_enter Try.func46, Try.ntmps46
  go_wp2_with (go_at_call 62; refine (feq_self _ _).mono ?_; rintro e w1 ⟨rfl, rfl⟩)
  go_ret
  exact ⟨rfl, rfl⟩

end Go.Proofs.Qxb6605676a.Rm
