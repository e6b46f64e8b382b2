import Derived.Test.Qxb6605676aEng3
namespace Go.Proofs.Qxb6605676a.Rm
set_option linter.unusedVariables false
set_option linter.unusedSimpArgs false
open Go.RowKit Go.Proofs.Qxb6605676a.Mp Go.Proofs.Qxb6605676a.Tm Go.Proofs.Qxb6605676a.En
open Go.ChangeMaps (setBlock heap_setBlock_same)

theorem run_store_float (P : Program) (w : World) (a : Addr) (m : Mode) (k : FloatKind) (n : Nat) : (store a (.float k n) m).run P w = stored P w a (.float k n) m := run_store P w a _ m rfl
attribute [local go_sem] run_store_float

/-- A ZAlarm as plain data. -/
structure ZAl where
  st : ByteArray
  since : Int
  lts : Int
  ls : ByteArray
  lm : ByteArray
  lv : Nat
  cl : Bool
  cs : Int

/-- Its times are int64. -/
structure ZAl.Ok (z : ZAl) : Prop where
  s1 : -9223372036854775808 ≤ z.since
  s2 : z.since ≤ 9223372036854775807
  l1 : -9223372036854775808 ≤ z.lts
  l2 : z.lts ≤ 9223372036854775807
  c1 : -9223372036854775808 ≤ z.cs
  c2 : z.cs ≤ 9223372036854775807

/-- A ZAlarm lies at ⟨b, o⟩. -/
structure ZAt (w : World) (b o : Nat) (z : ZAl) : Prop where
  c0 : w.cell? ⟨b, o, none⟩ = some (.string z.st)
  c1 : w.cell? ⟨b, o + 1, none⟩ = some (.int .i64 z.since)
  c2 : w.cell? ⟨b, o + 2, none⟩ = some (.int .i64 z.lts)
  c3 : w.cell? ⟨b, o + 3, none⟩ = some (.string z.ls)
  c4 : w.cell? ⟨b, o + 4, none⟩ = some (.string z.lm)
  c5 : w.cell? ⟨b, o + 5, none⟩ = some (.float .f64 z.lv)
  c6 : w.cell? ⟨b, o + 6, none⟩ = some (.bool z.cl)
  c7 : w.cell? ⟨b, o + 7, none⟩ = some (.int .i64 z.cs)

theorem ZAt.below {w w' : World} {b o : Nat} {z : ZAl} (h : ZAt w b o z) (hb : Below w.heap.size w w') : ZAt w' b o z := by
  have hlt : b < w.heap.size := World.block_lt_of_cell? w _ h.c0
  exact ⟨(hb.cell (p := ⟨b, o, none⟩) hlt).trans h.c0, (hb.cell (p := ⟨b, o + 1, none⟩) hlt).trans h.c1, (hb.cell (p := ⟨b, o + 2, none⟩) hlt).trans h.c2, (hb.cell (p := ⟨b, o + 3, none⟩) hlt).trans h.c3,
    (hb.cell (p := ⟨b, o + 4, none⟩) hlt).trans h.c4, (hb.cell (p := ⟨b, o + 5, none⟩) hlt).trans h.c5, (hb.cell (p := ⟨b, o + 6, none⟩) hlt).trans h.c6, (hb.cell (p := ⟨b, o + 7, none⟩) hlt).trans h.c7⟩

theorem ZAt.grown {w w' : World} {b o m : Nat} {z : ZAl} (h : ZAt w b o z) (hg : w.grownBy w' (some m)) (hne : b ≠ m) : ZAt w' b o z := by
  have hlt : b < w.heap.size := World.block_lt_of_cell? w _ h.c0
  have hb : w'.heap[b]? = w.heap[b]? := hg.block b hlt (fun e => hne (Option.some.inj e))
  have hc : ∀ k, w'.cell? ⟨b, k, none⟩ = w.cell? ⟨b, k, none⟩ := fun k => World.cell?_of_block (a := ⟨b, k, none⟩) hb
  exact ⟨(hc _).trans h.c0, (hc _).trans h.c1, (hc _).trans h.c2, (hc _).trans h.c3, (hc _).trans h.c4, (hc _).trans h.c5, (hc _).trans h.c6, (hc _).trans h.c7⟩

/-- The cells of an alarm. -/
def alarmCells (z : ZAl) : Array Value := #[.string z.st, .int .u64 (z.since % 1000000000), .int .i64 (z.since / 1000000000), .pointer none, .int .u64 (z.lts % 1000000000), .int .i64 (z.lts / 1000000000), .pointer none, .string z.ls, .string z.lm, .float .f64 z.lv, .bool z.cl, .int .u64 (z.cs % 1000000000), .int .i64 (z.cs / 1000000000), .pointer none]

set_option maxHeartbeats 400000 in
theorem alarmBytes_nil (w : World) : Calls Try.prog 35 #[.pointer none] w fun e w' => e = .returned (.int .i64 0) ∧ w = w' := by
  go_enter Try.func35, Try.ntmps35
  go_wp2
  go_ret
  exact ⟨rfl, rfl⟩

set_option maxHeartbeats 400000 in
theorem alarmBytes_some (w : World) (b o : Nat) (z : ZAl) (h : ZAt w b o z) (h1 : z.st.size ≤ 1048576) (h2 : z.ls.size ≤ 1048576) (h3 : z.lm.size ≤ 1048576) :
    Calls Try.prog 35 #[.pointer (some ⟨b, o, none⟩)] w fun e w' => e = .returned (.int .i64 (z.st.size + z.ls.size + z.lm.size)) ∧ Below w.heap.size w w' := by
  obtain ⟨c0, _, _, c3, c4, _, _, _⟩ := h
  have k1 : (z.st.size : Int) ≤ 1048576 := by omega
  have k2 : (z.ls.size : Int) ≤ 1048576 := by omega
  have k3 : (z.lm.size : Int) ≤ 1048576 := by omega
  go_enter Try.func35, Try.ntmps35
  go_wp2
  go_quiet (fail)
  go_wp2
  go_ret
  exact ⟨rfl, below_drewN (Below.refl _ _) _⟩

set_option maxHeartbeats 400000 in
theorem copyArg_nil (w : World) : Calls Try.prog 36 #[.pointer none] w fun e w' => e = .returned (.pointer none) ∧ Below w.heap.size w w' := by
  go_enter Try.func36, Try.ntmps36
  go_wp2
  go_ret
  exact ⟨rfl, Below.refl _ _⟩

set_option maxHeartbeats 400000 in
theorem copyArg_some (w : World) (b o : Nat) (z : ZAl) (h : ZAt w b o z) :
    Calls Try.prog 36 #[.pointer (some ⟨b, o, none⟩)] w fun e w' => e = .returned (.pointer (some ⟨w.heap.size, 0, none⟩)) ∧ Below w.heap.size w w' ∧ ZAt w' w.heap.size 0 z := by
  obtain ⟨c0, c1, c2, c3, c4, c5, c6, c7⟩ := h
  go_enter Try.func36, Try.ntmps36
  go_wp2
  go_ret
  refine ⟨rfl, ?_, ?_⟩
  · exact (Below.refl _ _).alloc (Nat.le_refl _) _
  · constructor <;> simp

theorem feq_self (x : Nat) (w : World) : Calls Try.prog 62 #[.float .f64 x, .float .f64 x] w fun e w' => e = .returned (.bool true) ∧ w' = w := by
  go_enter Try.func62, Try.ntmps62
  go_wp2
  all_goals
    go_ret
    refine ⟨ret_bool ?_, rfl⟩
    first | rfl | (simp only [bne]; cases (FloatKind.f64.format.order x x == some Ordering.eq) <;> rfl)
end Go.Proofs.Qxb6605676a.Rm
