import Derived.Test.Qxb6605676aMf5
namespace Go.Proofs.Qxb6605676a.En
set_option linter.unusedVariables false
set_option linter.unusedSimpArgs false
open Go.RowKit Go.Proofs.Qxb6605676a.Mp Go.Proofs.Qxb6605676a.Tm
open Go.ChangeMaps (setBlock heap_setBlock_same)

/-! ### the early ways out -/
set_option maxHeartbeats 400000 in
theorem out_bytes (a0 : Int) (a1 : ByteArray) (a2 a3 a4 : Int) (a5 : Bool) (a6 : Int) (a7 : ByteArray) (a8 : Int) (m1 : a1.size ≤ maxLen) (m7 : a7.size ≤ maxLen) (w : World) (h : ¬ a1.size + a7.size ≤ 1048576) :
    Calls Try.prog 9 #[.int .i64 a0, .string a1, .int .i64 a2, .int .i64 a3, .int .i64 a4, .bool a5, .int .i64 a6, .string a7, .int .i64 a8] w fun e w' => e = .returned (.bool true) ∧ Below w.heap.size w w' := by
  go_enter Try.func9, Try.ntmps9
  go_wp2_with (go_at_call 50; refine (bytes50_no _ _ _ _ _ _ _ _ _ _ m1 m7 h).mono ?_; rintro e w1 ⟨rfl, rfl⟩)
  go_ret
  exact ⟨rfl, Below.refl _ _⟩

set_option maxHeartbeats 400000 in
theorem out_level (a0 : Int) (a1 : ByteArray) (a2 a3 a4 : Int) (a5 : Bool) (a6 : Int) (a7 : ByteArray) (a8 : Int) (w : World) (h : a1.size + a7.size ≤ 1048576) (hl : a0 < 0 ∨ 1 < a0 ∨ a6 < 0 ∨ 1 < a6) :
    Calls Try.prog 9 #[.int .i64 a0, .string a1, .int .i64 a2, .int .i64 a3, .int .i64 a4, .bool a5, .int .i64 a6, .string a7, .int .i64 a8] w fun e w' => e = .returned (.bool true) ∧ Below w.heap.size w w' := by
  have h3 : (a1.size : Int) + a7.size ≤ 1048576 := by omega
  by_cases q1 : a0 < 0
  · go_enter Try.func9, Try.ntmps9
    go_wp2_with (go_at_call 50; refine (bytes50_yes _ _ _ _ _ _ _ _ _ _ h).mono ?_; rintro e w1 ⟨rfl, rfl⟩)
    go_ret
    exact ⟨rfl, Below.refl _ _⟩
  · have q1' : decide (a0 < 0) = false := by simpa using q1
    by_cases q2 : 1 < a0
    · go_enter Try.func9, Try.ntmps9
      go_wp2_with (go_at_call 50; refine (bytes50_yes _ _ _ _ _ _ _ _ _ _ h).mono ?_; rintro e w1 ⟨rfl, rfl⟩)
      go_ret
      exact ⟨rfl, Below.refl _ _⟩
    · have q2' : decide (1 < a0) = false := by simpa using q2
      by_cases q3 : a6 < 0
      · go_enter Try.func9, Try.ntmps9
        go_wp2_with (go_at_call 50; refine (bytes50_yes _ _ _ _ _ _ _ _ _ _ h).mono ?_; rintro e w1 ⟨rfl, rfl⟩)
        go_ret
        exact ⟨rfl, Below.refl _ _⟩
      · have q3' : decide (a6 < 0) = false := by simpa using q3
        have q4 : 1 < a6 := by omega
        go_enter Try.func9, Try.ntmps9
        go_wp2_with (go_at_call 50; refine (bytes50_yes _ _ _ _ _ _ _ _ _ _ h).mono ?_; rintro e w1 ⟨rfl, rfl⟩)
        go_ret
        exact ⟨rfl, Below.refl _ _⟩

set_option maxHeartbeats 400000 in
theorem out_within (a0 : Int) (a1 : ByteArray) (a2 a3 a4 : Int) (a5 : Bool) (a6 : Int) (a7 : ByteArray) (a8 : Int) (w : World) (h : a1.size + a7.size ≤ 1048576) (l0 : 0 ≤ a0) (l1 : a0 ≤ 1) (c0 : 0 ≤ a6) (c1 : a6 ≤ 1)
    (hl : withinB a2 = false ∨ withinB a3 = false ∨ withinB a4 = false ∨ withinB a8 = false) :
    Calls Try.prog 9 #[.int .i64 a0, .string a1, .int .i64 a2, .int .i64 a3, .int .i64 a4, .bool a5, .int .i64 a6, .string a7, .int .i64 a8] w fun e w' => e = .returned (.bool true) ∧ Below w.heap.size w w' := by
  have h3 : (a1.size : Int) + a7.size ≤ 1048576 := by omega
  have e1 : decide (a0 < 0) = false := by simp; omega
  have e2 : decide (1 < a0) = false := by simp; omega
  have e3 : decide (a6 < 0) = false := by simp; omega
  have e4 : decide (1 < a6) = false := by simp; omega
  cases q2 : withinB a2
  · go_enter Try.func9, Try.ntmps9
    go_wp2_with (first | (go_at_call 50; refine (bytes50_yes _ _ _ _ _ _ _ _ _ _ h).mono ?_; rintro e w1 ⟨rfl, rfl⟩) | (go_at_call 51; refine (zzwithin_any _ _).mono ?_; rintro e w1 ⟨rfl, rfl⟩))
    go_ret
    exact ⟨rfl, Below.refl _ _⟩
  · cases q3 : withinB a3
    · go_enter Try.func9, Try.ntmps9
      go_wp2_with (first | (go_at_call 50; refine (bytes50_yes _ _ _ _ _ _ _ _ _ _ h).mono ?_; rintro e w1 ⟨rfl, rfl⟩) | (go_at_call 51; refine (zzwithin_any _ _).mono ?_; rintro e w1 ⟨rfl, rfl⟩))
      go_ret
      exact ⟨rfl, Below.refl _ _⟩
    · cases q4 : withinB a4
      · go_enter Try.func9, Try.ntmps9
        go_wp2_with (first | (go_at_call 50; refine (bytes50_yes _ _ _ _ _ _ _ _ _ _ h).mono ?_; rintro e w1 ⟨rfl, rfl⟩) | (go_at_call 51; refine (zzwithin_any _ _).mono ?_; rintro e w1 ⟨rfl, rfl⟩))
        go_ret
        exact ⟨rfl, Below.refl _ _⟩
      · have q8 : withinB a8 = false := by simpa [q2, q3, q4] using hl
        clear hl
        go_enter Try.func9, Try.ntmps9
        go_wp2_with (first | (go_at_call 50; refine (bytes50_yes _ _ _ _ _ _ _ _ _ _ h).mono ?_; rintro e w1 ⟨rfl, rfl⟩) | (go_at_call 51; refine (zzwithin_any _ _).mono ?_; rintro e w1 ⟨rfl, rfl⟩))
        go_ret
        exact ⟨rfl, Below.refl _ _⟩
end Go.Proofs.Qxb6605676a.En
