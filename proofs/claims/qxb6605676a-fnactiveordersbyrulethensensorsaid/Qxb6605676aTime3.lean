import Derived.Test.Qxb6605676aTime2
namespace Go.Proofs.Qxb6605676a.Tm
set_option linter.unusedVariables false
set_option linter.unusedSimpArgs false
open Go.RowKit

set_option maxHeartbeats 400000 in
/-- 'time.Time{}.Add(time.Duration(ns))'. -/
theorem zztime_any (x : Int) (w : World) (hx : -9223372036854775808 ≤ x) (hx' : x ≤ 9223372036854775807) :
    Calls Try.prog 55 #[.int .i64 x] w fun e w' => e = .returned (T x) ∧ Below w.heap.size w w' := by
  have hadd : ∀ W : World, Calls Try.prog 78 #[.agg #[.int .u64 0, .int .i64 0, .pointer none], .int .i64 x] W fun e w' => e = .returned (.agg #[.int .u64 (x % 1000000000), .int .i64 (x / 1000000000), .pointer none]) ∧ Below W.heap.size W w' := by
    intro W
    have h := add_any 0 x W (by omega) (by omega) hx hx'
    rw [show (0 : Int) + x = x by omega] at h
    exact h
  have H : Hid (∀ W : World, Calls Try.prog 78 #[.agg #[.int .u64 0, .int .i64 0, .pointer none], .int .i64 x] W fun e w' => e = .returned (.agg #[.int .u64 (x % 1000000000), .int .i64 (x / 1000000000), .pointer none]) ∧ Below W.heap.size W w') := hadd
  clear hadd
  go_enter Try.func55, Try.ntmps55
  go_wp2_with (go_at_call 78; refine (H.out _).mono ?_; rintro e w1 ⟨rfl, hb1⟩; obtain ⟨hc1, hf1⟩ := bcell hb1; have z1 := hb1.size; simp at z1)
  refine bodyPost_ret (v := .agg #[.int .u64 (x % 1000000000), .int .i64 (x / 1000000000), .pointer none]) (by simp [results, Try.results55, go_sem, hc1, z1]) rfl ⟨rfl, ?_⟩
  exact (((((Below.refl _ _).alloc (Nat.le_refl _) _).trans (hb1.mono (by simp))).setCell (by simp) _).setCell (by simp) _).setCell (by simp) _

set_option maxHeartbeats 400000 in
/-- 'int64(t.Sub(time.Time{}))'. -/
theorem zznanos_any (x : Int) (w : World) (hx : -9223372036854775808 ≤ x) (hx' : x ≤ 9223372036854775807) :
    Calls Try.prog 33 #[T x] w fun e w' => e = .returned (.int .i64 x) ∧ Below w.heap.size w w' := by
  have H : Hid (∀ W : World, Calls Try.prog 75 #[.agg #[.int .u64 (x % 1000000000), .int .i64 (x / 1000000000), .pointer none], .agg #[.int .u64 0, .int .i64 0, .pointer none]] W fun e w' => e = .returned (.int .i64 x) ∧ Below W.heap.size W w') := by
    intro W
    have h := sub_any x 0 W (by omega) (by omega) (by omega) (by omega) (by omega) (by omega)
    rw [show x - 0 = x by omega] at h
    exact h
  rw [show T x = .agg #[.int .u64 (x % 1000000000), .int .i64 (x / 1000000000), .pointer none] from rfl]
  go_enter Try.func33, Try.ntmps33
  go_wp2_with (go_at_call 75; refine (H.out _).mono ?_; rintro e w1 ⟨rfl, hb1⟩)
  go_ret
  exact ⟨rfl, ((Below.refl _ _).alloc (Nat.le_refl _) _).trans (hb1.mono (by simp))⟩

set_option maxHeartbeats 400000 in
theorem iszero_any (x : Int) (w : World) :
    Calls Try.prog 58 #[T x] w fun e w' => e = .returned (.bool (decide (x = 0))) ∧ Below w.heap.size w w' := by
  rw [show T x = .agg #[.int .u64 (x % 1000000000), .int .i64 (x / 1000000000), .pointer none] from rfl]
  go_enter Try.func58, Try.ntmps58
  go_wp2
  all_goals
    go_ret
    exact ⟨ret_bool (by rw [Bool.eq_iff_iff]; simp; omega), (Below.refl _ _).alloc (Nat.le_refl _) _⟩

end Go.Proofs.Qxb6605676a.Tm
