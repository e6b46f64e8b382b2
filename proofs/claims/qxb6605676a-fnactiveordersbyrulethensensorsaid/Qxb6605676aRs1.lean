import Derived.Test.Qxb6605676aEng3
import Derived.Test.Qxb6605676aMaps4
import Derived.LoopN
namespace Go.Proofs.Qxb6605676a.Rs
set_option linter.unusedVariables false
set_option linter.unusedSimpArgs false
open Go.RowKit Go.Proofs.Qxb6605676a.Mp Go.Proofs.Qxb6605676a.Tm Go.Proofs.Qxb6605676a.En
open Go.ChangeMaps (setBlock heap_setBlock_same)

/-- The cells of a level. -/
def lvl (s : ByteArray) : Value := .agg #[.string s, .string ⟨#[]⟩, .float .f64 0, .float .f64 0]

set_option maxHeartbeats 400000 in
/-- 'func(l rules.Level) bool { return l.Severity == ks.Severity }' -/
theorem isLevel_any (s t : ByteArray) (b : Nat) (w : World) (hc : w.cell? ⟨b, 3, none⟩ = some (.string t)) :
    Calls Try.prog 57 #[lvl s, .pointer (some ⟨b, 0, none⟩)] w fun e w' => e = .returned (.bool (s.toList == t.toList)) ∧ Below w.heap.size w w' := by
  unfold lvl
  have hb : b < w.heap.size := World.block_lt_of_cell? w _ hc
  go_enter Try.func57, Try.ntmps57
  go_wp2
  go_ret
  exact ⟨rfl, (Below.refl _ _).alloc (Nat.le_refl _) _⟩

/-- The levels of a rule of two levels, in memory. -/
structure Levels2 (w : World) (lb : Nat) (s0 s1 : ByteArray) : Prop where
  c0 : w.cell? ⟨lb, 0, none⟩ = some (.string s0)
  c1 : w.cell? ⟨lb, 1, none⟩ = some (.string ⟨#[]⟩)
  c2 : w.cell? ⟨lb, 2, none⟩ = some (.float .f64 0)
  c3 : w.cell? ⟨lb, 3, none⟩ = some (.float .f64 0)
  c4 : w.cell? ⟨lb, 4, none⟩ = some (.string s1)
  c5 : w.cell? ⟨lb, 5, none⟩ = some (.string ⟨#[]⟩)
  c6 : w.cell? ⟨lb, 6, none⟩ = some (.float .f64 0)
  c7 : w.cell? ⟨lb, 7, none⟩ = some (.float .f64 0)

theorem Levels2.below {w w' : World} {lb : Nat} {s0 s1 : ByteArray} (h : Levels2 w lb s0 s1) (hb : Below w.heap.size w w') : Levels2 w' lb s0 s1 := by
  have hl : lb < w.heap.size := World.block_lt_of_cell? w _ h.c0
  obtain ⟨c0, c1, c2, c3, c4, c5, c6, c7⟩ := h
  constructor <;> rw [hb.cell hl] <;> assumption

set_option maxHeartbeats 1000000 in
theorem indexFunc_first (s0 s1 t : ByteArray) (lb b : Nat) (w : World) (hL : Levels2 w lb s0 s1) (hc : w.cell? ⟨b, 3, none⟩ = some (.string t)) (h0 : (s0.toList == t.toList) = true) :
    Calls Try.prog 56 #[.slice (some ⟨lb, 0, none⟩) 2 2, .func (.func 57) #[] #[.pointer (some ⟨b, 0, none⟩)]] w fun e w' => e = .returned (.int .i64 0) ∧ Below w.heap.size w w' := by
  obtain ⟨c0, c1, c2, c3, c4, c5, c6, c7⟩ := hL
  have HH : Hid (Calls Try.prog 57 #[.agg #[.string s0, .string ⟨#[]⟩, .float .f64 0, .float .f64 0], .pointer (some ⟨b, 0, none⟩)] w fun e w' => e = .returned (.bool true) ∧ Below w.heap.size w w') := by
    have HI := isLevel_any s0 t b w hc
    rw [h0] at HI
    exact HI
  go_enter Try.func56, Try.ntmps56
  go_wp2
  refine wp_loop_rounds 1 ?_
  rw [rounds_succ]
  go_wp2_with (go_at_call 57; refine Calls.mono HH.out ?_; rintro e w1 ⟨rfl, hb⟩)
  go_ret
  exact ⟨rfl, hb⟩

set_option maxHeartbeats 1000000 in
theorem indexFunc_second (s0 s1 t : ByteArray) (lb b : Nat) (w : World) (hL : Levels2 w lb s0 s1) (hc : w.cell? ⟨b, 3, none⟩ = some (.string t)) (h0 : (s0.toList == t.toList) = false) (h1 : (s1.toList == t.toList) = true) :
    Calls Try.prog 56 #[.slice (some ⟨lb, 0, none⟩) 2 2, .func (.func 57) #[] #[.pointer (some ⟨b, 0, none⟩)]] w fun e w' => e = .returned (.int .i64 1) ∧ Below w.heap.size w w' := by
  have HL : Hid (Levels2 w lb s0 s1) := hL
  obtain ⟨c0, c1, c2, c3, c4, c5, c6, c7⟩ := hL
  have HH : Hid (Calls Try.prog 57 #[.agg #[.string s0, .string ⟨#[]⟩, .float .f64 0, .float .f64 0], .pointer (some ⟨b, 0, none⟩)] w fun e w' => e = .returned (.bool false) ∧ Below w.heap.size w w') := by
    have HI := isLevel_any s0 t b w hc
    rw [h0] at HI
    exact HI
  have HJ : Hid (∀ W : World, W.cell? ⟨b, 3, none⟩ = some (.string t) → Calls Try.prog 57 #[.agg #[.string s1, .string ⟨#[]⟩, .float .f64 0, .float .f64 0], .pointer (some ⟨b, 0, none⟩)] W fun e w' => e = .returned (.bool true) ∧ Below W.heap.size W w') := by
    intro W hW
    have HI := isLevel_any s1 t b W hW
    rw [h1] at HI
    exact HI
  clear h0 h1
  have hb0 : b < w.heap.size := World.block_lt_of_cell? w _ hc
  go_enter Try.func56, Try.ntmps56
  go_wp2
  refine wp_loop_rounds 2 ?_
  rw [rounds_succ]
  go_wp2_with (go_at_call 57; refine Calls.mono HH.out ?_; rintro e w1 ⟨rfl, hb⟩)
  rw [rounds_succ]
  have hc1 : w1.cell? ⟨b, 3, none⟩ = some (.string t) := by rw [hb.cell hb0]; exact hc
  clear c0 c1 c2 c3 c4 c5 c6 c7 hc
  obtain ⟨c0, c1, c2, c3, c4, c5, c6, c7⟩ := HL.out.below hb
  go_wp2_with (go_at_call 57; refine Calls.mono (HJ.out _ hc1) ?_; rintro e w2 ⟨rfl, hb2⟩)
  go_ret
  exact ⟨rfl, hb.trans (hb2.mono hb.size)⟩
end Go.Proofs.Qxb6605676a.Rs
