import Derived.Test.Qxb6605676aRm5
namespace Go.Proofs.Qxb6605676a.Rm
set_option linter.unusedVariables false
set_option linter.unusedSimpArgs false
open Go.RowKit Go.Proofs.Qxb6605676a.Mp Go.Proofs.Qxb6605676a.Tm Go.Proofs.Qxb6605676a.En
open Go.ChangeMaps (setBlock heap_setBlock_same)
attribute [local go_sem] run_store_float

theorem grown_setCell {w w' : World} {b : Nat} (h : w.grownBy w' (some b)) {p : Addr} (hp : p.block = b) (v : Value) : w.grownBy (w'.setCell p v) (some b) :=
  ⟨h.os, h.tape, h.output, by have := h.size; simpa [World.setCell] using this, fun k hk hne => (Below.heap_setCell w' p v k (fun e => hne (by rw [e, hp]))).trans (h.block k hk hne)⟩

section
variable {w : World} {mb rb nr : Nat} {rs : Array Value} {A C KB : List (Key × Value)} {LS SB : List ((ByteArray × ByteArray) × Value)}

theorem zzremember_again (E : Eng w mb rb nr rs A C KB LS SB) (r l : Int) (s : ByteArray) (p p0 : Option Addr) (x0 : Int) (c0 : Bool) (hg : (Mp.get Key.same ⟨r, l, s⟩ KB) = some (kb p0 x0 c0)) :
    Calls Try.prog 41 #[.pointer (some ⟨mb + 5, 0, none⟩), .int .i64 r, .int .i64 l, .string s, .pointer p] w fun e w' => e = .returned (.tuple #[]) ∧ Below w.heap.size w w' := by
  have H : Hid (Calls Try.prog 76 #[.pointer (some ⟨mb + 5, 0, none⟩), .agg #[.int .i64 r, .int .i64 l, .string s], .pointer p] w fun e w' => e = .returned (.tuple #[]) ∧ Below w.heap.size w w') := remember_again E r l s p p0 x0 c0 hg
  clear hg E
  go_enter Try.func41, Try.ntmps41
  go_wp2_with (go_at_call 76; refine H.out.mono ?_; rintro e w1 ⟨rfl, hb1⟩)
  go_end0
  exact ⟨rfl, hb1⟩

theorem zzremember_nil (E : Eng w mb rb nr rs A C KB LS SB) (r l : Int) (s : ByteArray) (x : Int) (ok : Bool) (hn : Mp.get Key.same ⟨r, l, s⟩ KB = none) (hg : (Mp.get Key.same ⟨r, l, s⟩ C).getD (T 0) = T x) (hok : (Mp.get Key.same ⟨r, l, s⟩ C).isSome = ok) :
    Calls Try.prog 41 #[.pointer (some ⟨mb + 5, 0, none⟩), .int .i64 r, .int .i64 l, .string s, .pointer none] w fun e w' => e = .returned (.tuple #[]) ∧ w.grownBy w' (some (mb + 3)) ∧ MapIs w' (mb + 3) kv (put Key.same ⟨r, l, s⟩ (kb none x ok) KB) := by
  have H : Hid (Calls Try.prog 76 #[.pointer (some ⟨mb + 5, 0, none⟩), .agg #[.int .i64 r, .int .i64 l, .string s], .pointer none] w fun e w' => e = .returned (.tuple #[]) ∧ w.grownBy w' (some (mb + 3)) ∧ MapIs w' (mb + 3) kv (put Key.same ⟨r, l, s⟩ (kb none x ok) KB)) := remember_nil E r l s x ok hn hg hok
  clear hg E hn hok
  go_enter Try.func41, Try.ntmps41
  go_wp2_with (go_at_call 76; refine H.out.mono ?_; rintro e w1 ⟨rfl, hb1, hm1⟩)
  go_end0
  exact ⟨rfl, hb1, hm1⟩

theorem zzremember_some (E : Eng w mb rb nr rs A C KB LS SB) (r l : Int) (s : ByteArray) (x : Int) (ok : Bool) (ab : Nat) (z : ZAl) (ha : w.heap[ab]? = some (.cells (alarmCells z) 136)) (hn : Mp.get Key.same ⟨r, l, s⟩ KB = none) (hg : (Mp.get Key.same ⟨r, l, s⟩ C).getD (T 0) = T x) (hok : (Mp.get Key.same ⟨r, l, s⟩ C).isSome = ok) :
    Calls Try.prog 41 #[.pointer (some ⟨mb + 5, 0, none⟩), .int .i64 r, .int .i64 l, .string s, .pointer (some ⟨ab, 0, none⟩)] w fun e w' => e = .returned (.tuple #[]) ∧ w.grownBy w' (some (mb + 3)) ∧ MapIs w' (mb + 3) kv (put Key.same ⟨r, l, s⟩ (kb (some ⟨w.heap.size + 3, 0, none⟩) x ok) KB) ∧ w'.heap[w.heap.size + 3]? = some (.cells (alarmCells z) 136) := by
  have H : Hid (Calls Try.prog 76 #[.pointer (some ⟨mb + 5, 0, none⟩), .agg #[.int .i64 r, .int .i64 l, .string s], .pointer (some ⟨ab, 0, none⟩)] w fun e w' => e = .returned (.tuple #[]) ∧ w.grownBy w' (some (mb + 3)) ∧ MapIs w' (mb + 3) kv (put Key.same ⟨r, l, s⟩ (kb (some ⟨w.heap.size + 3, 0, none⟩) x ok) KB) ∧ w'.heap[w.heap.size + 3]? = some (.cells (alarmCells z) 136)) := remember_some E r l s x ok ab z ha hn hg hok
  clear hg E hn hok ha
  go_enter Try.func41, Try.ntmps41
  go_wp2_with (go_at_call 76; refine H.out.mono ?_; rintro e w1 ⟨rfl, hb1, hm1, hh1⟩)
  go_end0
  exact ⟨rfl, hb1, hm1, hh1⟩

set_option maxHeartbeats 4000000 in
set_option maxRecDepth 10000 in
theorem zzkeyBefore_any (E : Eng w mb rb nr rs A C KB LS SB) (r l : Int) (s : ByteArray) (p : Option Addr) (x : Int) (c : Bool) (hx : -9223372036854775808 ≤ x) (hx' : x ≤ 9223372036854775807) (hg : Mp.get Key.same ⟨r, l, s⟩ KB = some (kb p x c)) :
    Calls Try.prog 42 #[.pointer (some ⟨mb + 5, 0, none⟩), .int .i64 r, .int .i64 l, .string s] w fun e w' => e = .returned (.tuple #[.pointer p, .int .i64 x, .bool c, .bool true]) ∧ Below w.heap.size w w' := by
  obtain ⟨_, _, _, _, d5, _⟩ := E.cells
  have hlook := E.keys.look keyTy134 Try.underlying117 zero172 ⟨r, l, s⟩ true
  rw [if_pos rfl, hg] at hlook
  simp only [kv, kb, Option.getD_some, Option.isSome_some] at hlook
  have HT : Hid (∀ W : World, Calls Try.prog 33 #[.agg #[.int .u64 (x % 1000000000), .int .i64 (x / 1000000000), .pointer none]] W fun e w' => e = .returned (.int .i64 x) ∧ Below W.heap.size W w') := fun W => zznanos_any x W hx hx'
  clear E hg
  go_enter Try.func42, Try.ntmps42
  go_wp2
  go_region_held3 (fun W => W.cell? ⟨w.heap.size, 0, none⟩ = some (.pointer p) ∧ W.cell? ⟨w.heap.size, 1, none⟩ = some (.int .u64 (x % 1000000000)) ∧ W.cell? ⟨w.heap.size, 2, none⟩ = some (.int .i64 (x / 1000000000)) ∧ W.cell? ⟨w.heap.size, 3, none⟩ = some (.pointer none) ∧ W.cell? ⟨w.heap.size, 4, none⟩ = some (.bool c)) (simp (maxDischargeDepth := 8) [*, World.cell?_alloc_some]) (first | (go_at_call 33; refine (HT.out _).mono ?_; rintro e w1 ⟨rfl, hb1⟩; have kk1 := below_cell_some hb1))
  go_wp2
  have hb1' : Below w.heap.size w w1 := ((allocs_below [_] w).drew).trans (hb1.mono (by simp))
  exact bodyPost_ret (v := .tuple #[.pointer p, .int .i64 x, .bool c, .bool true]) (by simp [results, Try.results42, go_sem]) rfl ⟨rfl, hb1'⟩

set_option maxHeartbeats 400000 in
set_option maxRecDepth 10000 in
theorem zzdelete_any (E : Eng w mb rb nr rs A C KB LS SB) (r l : Int) (s : ByteArray) :
    Calls Try.prog 48 #[.pointer (some ⟨mb + 5, 0, none⟩), .int .i64 r, .int .i64 l, .string s] w fun e w' => e = .returned (.tuple #[]) ∧ w.grownBy w' (some (mb + 2)) ∧ MapIs w' (mb + 2) kv (del Key.same ⟨r, l, s⟩ C) := by
  obtain ⟨_, _, _, d4, _, _⟩ := E.cells
  obtain ⟨o, hrun, hm⟩ := E.cool.drop keyTy134 Try.underlying116 ⟨r, l, s⟩ 0
  have HM : Hid (MapIs (setBlock w (mb + 2) o) (mb + 2) kv (del Key.same ⟨r, l, s⟩ C)) := hm
  clear hm E
  simp only [kv] at hrun
  go_enter Try.func48, Try.ntmps48
  go_wp2
  go_end0
  exact ⟨rfl, setBlock_grown _ _ _, HM.out⟩

set_option maxHeartbeats 4000000 in
theorem zzcopyAlarm_any (w : World) (db sb : Nat) (z z0 : ZAl) (hd : w.heap[db]? = some (.cells (alarmCells z0) 136)) (hs : w.heap[sb]? = some (.cells (alarmCells z) 136)) (hne : sb ≠ db) :
    Calls Try.prog 49 #[.pointer (some ⟨db, 0, none⟩), .pointer (some ⟨sb, 0, none⟩)] w fun e w' => e = .returned (.tuple #[]) ∧ w.grownBy w' (some db) := by
  have j0 : w.cell? ⟨sb, 0, none⟩ = some (.string z.st) := by simp [World.cell?, hs, alarmCells]
  have j1 : w.cell? ⟨sb, 1, none⟩ = some (.int .u64 (z.since % 1000000000)) := by simp [World.cell?, hs, alarmCells]
  have j2 : w.cell? ⟨sb, 2, none⟩ = some (.int .i64 (z.since / 1000000000)) := by simp [World.cell?, hs, alarmCells]
  have j3 : w.cell? ⟨sb, 3, none⟩ = some (.pointer none) := by simp [World.cell?, hs, alarmCells]
  have j4 : w.cell? ⟨sb, 4, none⟩ = some (.int .u64 (z.lts % 1000000000)) := by simp [World.cell?, hs, alarmCells]
  have j5 : w.cell? ⟨sb, 5, none⟩ = some (.int .i64 (z.lts / 1000000000)) := by simp [World.cell?, hs, alarmCells]
  have j6 : w.cell? ⟨sb, 6, none⟩ = some (.pointer none) := by simp [World.cell?, hs, alarmCells]
  have j7 : w.cell? ⟨sb, 7, none⟩ = some (.string z.ls) := by simp [World.cell?, hs, alarmCells]
  have j8 : w.cell? ⟨sb, 8, none⟩ = some (.string z.lm) := by simp [World.cell?, hs, alarmCells]
  have j9 : w.cell? ⟨sb, 9, none⟩ = some (.float .f64 z.lv) := by simp [World.cell?, hs, alarmCells]
  have j10 : w.cell? ⟨sb, 10, none⟩ = some (.bool z.cl) := by simp [World.cell?, hs, alarmCells]
  have j11 : w.cell? ⟨sb, 11, none⟩ = some (.int .u64 (z.cs % 1000000000)) := by simp [World.cell?, hs, alarmCells]
  have j12 : w.cell? ⟨sb, 12, none⟩ = some (.int .i64 (z.cs / 1000000000)) := by simp [World.cell?, hs, alarmCells]
  have j13 : w.cell? ⟨sb, 13, none⟩ = some (.pointer none) := by simp [World.cell?, hs, alarmCells]
  have d0 : w.cell? ⟨db, 0, none⟩ = some (.string z0.st) := by simp [World.cell?, hd, alarmCells]
  have d1 : w.cell? ⟨db, 1, none⟩ = some (.int .u64 (z0.since % 1000000000)) := by simp [World.cell?, hd, alarmCells]
  have d2 : w.cell? ⟨db, 2, none⟩ = some (.int .i64 (z0.since / 1000000000)) := by simp [World.cell?, hd, alarmCells]
  have d3 : w.cell? ⟨db, 3, none⟩ = some (.pointer none) := by simp [World.cell?, hd, alarmCells]
  have d4 : w.cell? ⟨db, 4, none⟩ = some (.int .u64 (z0.lts % 1000000000)) := by simp [World.cell?, hd, alarmCells]
  have d5 : w.cell? ⟨db, 5, none⟩ = some (.int .i64 (z0.lts / 1000000000)) := by simp [World.cell?, hd, alarmCells]
  have d6 : w.cell? ⟨db, 6, none⟩ = some (.pointer none) := by simp [World.cell?, hd, alarmCells]
  have d7 : w.cell? ⟨db, 7, none⟩ = some (.string z0.ls) := by simp [World.cell?, hd, alarmCells]
  have d8 : w.cell? ⟨db, 8, none⟩ = some (.string z0.lm) := by simp [World.cell?, hd, alarmCells]
  have d9 : w.cell? ⟨db, 9, none⟩ = some (.float .f64 z0.lv) := by simp [World.cell?, hd, alarmCells]
  have d10 : w.cell? ⟨db, 10, none⟩ = some (.bool z0.cl) := by simp [World.cell?, hd, alarmCells]
  have d11 : w.cell? ⟨db, 11, none⟩ = some (.int .u64 (z0.cs % 1000000000)) := by simp [World.cell?, hd, alarmCells]
  have d12 : w.cell? ⟨db, 12, none⟩ = some (.int .i64 (z0.cs / 1000000000)) := by simp [World.cell?, hd, alarmCells]
  have d13 : w.cell? ⟨db, 13, none⟩ = some (.pointer none) := by simp [World.cell?, hd, alarmCells]
  have hfz : ∀ k, w.frozen? ⟨db, k, none⟩ = false := fun k => by simp [World.frozen?, hd]
  clear hs hd
  go_enter Try.func49, Try.ntmps49
  go_wp2
  go_end0
  refine ⟨rfl, ?_⟩
  repeat (refine grown_setCell ?_ rfl _)
  exact ⟨rfl, rfl, rfl, Nat.le_refl _, fun _ _ _ => rfl⟩
end
end Go.Proofs.Qxb6605676a.Rm
