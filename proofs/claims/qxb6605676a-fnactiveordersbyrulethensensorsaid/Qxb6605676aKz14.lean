import Derived.Test.Qxb6605676aKz13
import Derived.BigQuiet
namespace Go.Proofs.Qxb6605676a.Kz
set_option linter.unusedVariables false
set_option linter.unusedSimpArgs false
open Go.RowKit Go.Proofs.Qxb6605676a.Mp Go.Proofs.Qxb6605676a.Tm Go.Proofs.Qxb6605676a.En

/-- Each entry of the map of alarms leads to an alarm whose state is told. -/
def AlPtr (w : World) (A : List (Key × Value)) (st : Key → ByteArray) : Prop := ∀ k v, get Key.same k A = some v → ∃ ab, v = .pointer (some ⟨ab, 0, none⟩) ∧ w.cell? ⟨ab, 0, none⟩ = some (.string (st k))

theorem new_cell {w : World} {cur : Array Value} (T : TypeId) {v : Value} (j : Nat) (h : cur[j]? = some v) (n1 n2 : Nat) : (((w.alloc (.cells cur T)).drewN n1).drewN n2).cell? ⟨w.heap.size, j, none⟩ = some v := by
  show (w.alloc (.cells cur T)).cell? ⟨w.heap.size, j, none⟩ = some v
  unfold World.cell?
  rw [heap_alloc_new]
  simpa using h

def FIRING : ByteArray := ⟨#[70, 73, 82, 73, 78, 71]⟩

section
variable {w : World} {mb rb nr : Nat} {rs : Array Value} {A C KB : List (Key × Value)} {LS SB : List ((ByteArray × ByteArray) × Value)}

set_option maxHeartbeats 800000 in
theorem firing_none (E : Eng w mb rb nr rs A C KB LS SB) (i : Int) (s : ByteArray) (hg : get Key.same ⟨i, 0, s⟩ A = none) :
    Calls Try.prog 59 #[.pointer (some ⟨mb + 5, 0, none⟩), .agg #[.int .i64 i, .int .i64 0, .string s]] w fun e w' => e = .returned (.int .i64 (-1)) ∧ Below w.heap.size w w' := by
  obtain ⟨c0, c2, c3, c4, c5, c6⟩ := E.cells
  have hlt := E.lt
  have hlook := fun (o : Obj) nq => (E.alarms.of_block (w' := (w.alloc o).drewN nq) (by show (w.alloc o).heap[mb]? = w.heap[mb]?; exact heap_alloc_old w o (by omega))).look keyTy134 Try.underlying114 (z := .pointer none) (fun w => by kernel_rfl) ⟨i, 0, s⟩ false
  simp only [hg, kv, Option.getD_none, Bool.false_eq_true, if_false] at hlook
  clear E hg
  go_enter Try.func59, Try.ntmps59
  go_wp2
  go_quiet (fail)
  go_wp2
  go_ret
  exact ⟨rfl, below_drewN ((Below.refl _ _).alloc (Nat.le_refl _) _) _⟩

set_option maxHeartbeats 800000 in
theorem firing_other (E : Eng w mb rb nr rs A C KB LS SB) (i : Int) (s st : ByteArray) (ab : Nat) (hg : get Key.same ⟨i, 0, s⟩ A = some (.pointer (some ⟨ab, 0, none⟩))) (hc : w.cell? ⟨ab, 0, none⟩ = some (.string st)) (hst : (st.toList == [70, 73, 82, 73, 78, 71]) = false) :
    Calls Try.prog 59 #[.pointer (some ⟨mb + 5, 0, none⟩), .agg #[.int .i64 i, .int .i64 0, .string s]] w fun e w' => e = .returned (.int .i64 (-1)) ∧ Below w.heap.size w w' := by
  obtain ⟨c0, c2, c3, c4, c5, c6⟩ := E.cells
  have hlt := E.lt
  have hlook := fun (o : Obj) nq => (E.alarms.of_block (w' := (w.alloc o).drewN nq) (by show (w.alloc o).heap[mb]? = w.heap[mb]?; exact heap_alloc_old w o (by omega))).look keyTy134 Try.underlying114 (z := .pointer none) (fun w => by kernel_rfl) ⟨i, 0, s⟩ false
  simp only [hg, kv, Option.getD_some, Bool.false_eq_true, if_false] at hlook
  have hab : ab < w.heap.size := World.block_lt_of_cell? w _ hc
  clear E hg
  go_enter Try.func59, Try.ntmps59
  go_wp2
  go_quiet (fail)
  go_wp2
  go_ret
  exact ⟨rfl, below_drewN ((Below.refl _ _).alloc (Nat.le_refl _) _) _⟩

set_option maxHeartbeats 1600000 in
theorem firing_yes (E : Eng w mb rb nr rs A C KB LS SB) (i n lb : Nat) (s st : ByteArray) (ab : Nat) (hg : get Key.same ⟨i, 0, s⟩ A = some (.pointer (some ⟨ab, 0, none⟩))) (hc : w.cell? ⟨ab, 0, none⟩ = some (.string st)) (hst : (st.toList == [70, 73, 82, 73, 78, 71]) = true)
    (hi : i < nr) (hr : w.cell? ⟨rb, i * 6 + 2, none⟩ = some (.slice (some ⟨lb, 0, none⟩) n n)) (hn : n ≤ 1000)
    (hall : ∀ l : Int, get Key.same ⟨i, l, s⟩ A = none ∨ ∃ ab st, get Key.same ⟨i, l, s⟩ A = some (.pointer (some ⟨ab, 0, none⟩)) ∧ w.cell? ⟨ab, 0, none⟩ = some (.string st)) :
    Calls Try.prog 59 #[.pointer (some ⟨mb + 5, 0, none⟩), .agg #[.int .i64 i, .int .i64 0, .string s]] w fun e w' => (∃ m : Nat, e = .returned (.int .i64 m)) ∧ Below w.heap.size w w' := by
  obtain ⟨c0, c2, c3, c4, c5, c6⟩ := E.cells
  have hlt := E.lt
  have hrl : rb < w.heap.size := World.block_lt_of_cell? w _ hr
  have hlook := fun (o : Obj) nq => (E.alarms.of_block (w' := (w.alloc o).drewN nq) (by show (w.alloc o).heap[mb]? = w.heap[mb]?; exact heap_alloc_old w o (by omega))).look keyTy134 Try.underlying114 (z := .pointer none) (fun w => by kernel_rfl) ⟨i, 0, s⟩ false
  simp only [hg, kv, Option.getD_some, Bool.false_eq_true, if_false] at hlook
  have hab : ab < w.heap.size := World.block_lt_of_cell? w _ hc
  have HE : Hid (Eng w mb rb nr rs A C KB LS SB) := E
  have HA : Hid (∀ l : Int, get Key.same ⟨i, l, s⟩ A = none ∨ ∃ ab st, get Key.same ⟨i, l, s⟩ A = some (.pointer (some ⟨ab, 0, none⟩)) ∧ w.cell? ⟨ab, 0, none⟩ = some (.string st)) := hall
  clear E hg hall
  go_enter Try.func59, Try.ntmps59
  go_wp2
  go_quiet (fail)
  go_wp2
  go_quiet (fail)
  go_wp2
  go_loopw [6] (fun x wr => ∃ m : Int, x = .int .i64 m ∧ -1 ≤ m ∧ m < n ∧ Below w.heap.size w wr ∧ wr.cell? ⟨w.heap.size, 0, none⟩ = some (.int .i64 i) ∧ wr.cell? ⟨w.heap.size, 2, none⟩ = some (.string s)) (fun x _ => (intOf x + 1).toNat)
  case atStart => exact ⟨n - 1, rfl, by omega, by omega, below_drewN (below_drewN ((Below.refl _ _).alloc (Nat.le_refl _) _) _) _, new_cell _ _ rfl _ _, new_cell _ _ rfl _ _⟩
  case round =>
    obtain ⟨m, rfl, hm1, hm2, hb, d0, d2⟩ := hrel
    by_cases hm : 0 < m
    · have e2 : wr.cell? ⟨mb + 5, 2, none⟩ = some (.map (some mb)) := by rw [hb.cell hlt]; exact c2
      have hlook2 := fun nq => (HE.out.alarms.of_block (w' := wr.drewN nq) (by show wr.heap[mb]? = w.heap[mb]?; exact hb.block mb (by omega))).look keyTy134 Try.underlying114 (z := .pointer none) (fun w => by kernel_rfl) ⟨i, m, s⟩ false
      clear hlook
      rcases HA.out m with hgm | ⟨ab2, st2, hgm, hc2⟩
      · simp only [hgm, kv, Option.getD_none, Bool.false_eq_true, if_false] at hlook2
        clear hgm
        go_wp2
        go_quiet (fail)
        go_wp2
        exact ⟨⟨m - 1, by go_num, by omega, by omega, below_drewN hb _, d0, d2⟩, by simp [intOf]; omega⟩
      · simp only [hgm, kv, Option.getD_some, Bool.false_eq_true, if_false] at hlook2
        have hc3 : wr.cell? ⟨ab2, 0, none⟩ = some (.string st2) := by rw [hb.cell (World.block_lt_of_cell? w _ hc2)]; exact hc2
        clear hgm
        by_cases hs2 : (st2.toList == [70, 73, 82, 73, 78, 71]) = true
        · go_wp2
          go_quiet (fail)
          go_wp2
          go_ret
          exact ⟨⟨m.toNat, by rw [Int.toNat_of_nonneg (by omega)]; rfl⟩, below_drewN hb _⟩
        · have hs3 : (st2.toList == [70, 73, 82, 73, 78, 71]) = false := by simpa using hs2
          clear hs2
          go_wp2
          go_quiet (fail)
          go_wp2
          exact ⟨⟨m - 1, by go_num, by omega, by omega, below_drewN hb _, d0, d2⟩, by simp [intOf]; omega⟩
    · go_wp2
      go_ret
      exact ⟨⟨0, rfl⟩, hb⟩
end
end Go.Proofs.Qxb6605676a.Kz
