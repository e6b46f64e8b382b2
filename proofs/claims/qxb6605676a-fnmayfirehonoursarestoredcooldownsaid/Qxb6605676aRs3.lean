import Derived.Test.Qxb6605676aRs2
import Derived.Test.Qxb6605676aMf7
namespace Go.Proofs.Qxb6605676a.Rs
set_option linter.unusedVariables false
set_option linter.unusedSimpArgs false
open Go.RowKit Go.Proofs.Qxb6605676a.Mp Go.Proofs.Qxb6605676a.Tm Go.Proofs.Qxb6605676a.En
open Go.ChangeMaps (setBlock heap_setBlock_same)

set_option maxHeartbeats 1000000 in
theorem bytes54_yes (a0 a1 a2 a3 a4 : ByteArray) (a5 a6 a7 a8 a9 : Int) (w : World) (h : a0.size + a1.size + a2.size + a3.size + a4.size ≤ 1048576) :
    Calls Try.prog 54 #[.string a0, .string a1, .string a2, .string a3, .string a4, .int .i64 a5, .int .i64 a6, .int .i64 a7, .int .i64 a8, .int .i64 a9] w fun e w' => e = .returned (.bool true) ∧ w = w' := by
  have h1 : (a0.size : Int) + a1.size + a2.size + a3.size + a4.size ≤ 1048576 := by omega
  go_enter Try.func54, Try.ntmps54
  go_wp2
  go_ret
  exact ⟨rfl, rfl⟩

set_option maxHeartbeats 4000000 in
theorem bytes54_no (a0 a1 a2 a3 a4 : ByteArray) (a5 a6 a7 a8 a9 : Int) (w : World) (m0 : a0.size ≤ maxLen) (m1 : a1.size ≤ maxLen) (m2 : a2.size ≤ maxLen) (m3 : a3.size ≤ maxLen) (m4 : a4.size ≤ maxLen) (h : ¬ a0.size + a1.size + a2.size + a3.size + a4.size ≤ 1048576) :
    Calls Try.prog 54 #[.string a0, .string a1, .string a2, .string a3, .string a4, .int .i64 a5, .int .i64 a6, .int .i64 a7, .int .i64 a8, .int .i64 a9] w fun e w' => e = .returned (.bool false) ∧ w = w' := by
  unfold maxLen at m0 m1 m2 m3 m4
  have h1 : 1048576 < (a0.size : Int) + a1.size + a2.size + a3.size + a4.size := by omega
  go_enter Try.func54, Try.ntmps54
  go_wp2
  all_goals
    go_ret
    exact ⟨rfl, rfl⟩

set_option maxHeartbeats 400000 in
theorem ho_bytes (a0 a1 a2 a3 a4 : ByteArray) (a5 a6 a7 a8 a9 : Int) (w : World) (m0 : a0.size ≤ maxLen) (m1 : a1.size ≤ maxLen) (m2 : a2.size ≤ maxLen) (m3 : a3.size ≤ maxLen) (m4 : a4.size ≤ maxLen) (h : ¬ a0.size + a1.size + a2.size + a3.size + a4.size ≤ 1048576) :
    Calls Try.prog 10 #[.string a0, .string a1, .string a2, .string a3, .string a4, .int .i64 a5, .int .i64 a6, .int .i64 a7, .int .i64 a8, .int .i64 a9] w fun e w' => e = .returned (.bool true) ∧ Below w.heap.size w w' := by
  go_enter Try.func10, Try.ntmps10
  go_wp2_with (go_at_call 54; refine (bytes54_no _ _ _ _ _ _ _ _ _ _ _ m0 m1 m2 m3 m4 h).mono ?_; rintro e v0 ⟨rfl, rfl⟩)
  go_ret
  exact ⟨rfl, Below.refl _ _⟩

set_option maxHeartbeats 400000 in
theorem ho_level (a0 a1 a2 a3 a4 : ByteArray) (a5 a6 a7 a8 a9 : Int) (w : World) (h : a0.size + a1.size + a2.size + a3.size + a4.size ≤ 1048576) (hl : (a2.toList == a3.toList) = true ∨ a5 < 0 ∨ 1 < a5) :
    Calls Try.prog 10 #[.string a0, .string a1, .string a2, .string a3, .string a4, .int .i64 a5, .int .i64 a6, .int .i64 a7, .int .i64 a8, .int .i64 a9] w fun e w' => e = .returned (.bool true) ∧ Below w.heap.size w w' := by
  have h1 : (a0.size : Int) + a1.size + a2.size + a3.size + a4.size ≤ 1048576 := by omega
  cases q0 : (a2.toList == a3.toList)
  · have q0' : ¬ a2.toList = a3.toList := by simpa using q0
    by_cases q1 : a5 < 0
    · have q1' : decide (a5 < 0) = true := by simpa using q1
      go_enter Try.func10, Try.ntmps10
      go_wp2_with (go_at_call 54; refine (bytes54_yes _ _ _ _ _ _ _ _ _ _ _ h).mono ?_; rintro e v0 ⟨rfl, rfl⟩)
      go_ret
      exact ⟨rfl, Below.refl _ _⟩
    · have q1' : decide (a5 < 0) = false := by simpa using q1
      have q2' : decide (1 < a5) = true := by
        rcases hl with hl | hl | hl
        · rw [hl] at q0; cases q0
        · omega
        · simpa using hl
      go_enter Try.func10, Try.ntmps10
      go_wp2_with (go_at_call 54; refine (bytes54_yes _ _ _ _ _ _ _ _ _ _ _ h).mono ?_; rintro e v0 ⟨rfl, rfl⟩)
      go_ret
      exact ⟨rfl, Below.refl _ _⟩
  · have q0' : a2.toList = a3.toList := by simpa using q0
    go_enter Try.func10, Try.ntmps10
    go_wp2_with (go_at_call 54; refine (bytes54_yes _ _ _ _ _ _ _ _ _ _ _ h).mono ?_; rintro e v0 ⟨rfl, rfl⟩)
    go_ret
    exact ⟨rfl, Below.refl _ _⟩

set_option maxHeartbeats 400000 in
theorem ho_within (a0 a1 a2 a3 a4 : ByteArray) (a5 a6 a7 a8 a9 : Int) (w : World) (h : a0.size + a1.size + a2.size + a3.size + a4.size ≤ 1048576) (l0 : 0 ≤ a5) (l1 : a5 ≤ 1) (hs : (a2.toList == a3.toList) = false)
    (hl : withinB a6 = false ∨ withinB a7 = false ∨ withinB a8 = false ∨ withinB a9 = false) :
    Calls Try.prog 10 #[.string a0, .string a1, .string a2, .string a3, .string a4, .int .i64 a5, .int .i64 a6, .int .i64 a7, .int .i64 a8, .int .i64 a9] w fun e w' => e = .returned (.bool true) ∧ Below w.heap.size w w' := by
  have h1 : (a0.size : Int) + a1.size + a2.size + a3.size + a4.size ≤ 1048576 := by omega
  have e1 : decide (a5 < 0) = false := by simp; omega
  have e2 : decide (1 < a5) = false := by simp; omega
  have hs' : ¬ a2.toList = a3.toList := by simpa using hs
  cases q6 : withinB a6
  · go_enter Try.func10, Try.ntmps10
    go_wp2_with (first | (go_at_call 54; refine (bytes54_yes _ _ _ _ _ _ _ _ _ _ _ h).mono ?_; rintro e v0 ⟨rfl, rfl⟩) | (go_at_call 51; refine (zzwithin_any _ _).mono ?_; rintro e w1 ⟨rfl, rfl⟩))
    go_ret
    exact ⟨rfl, Below.refl _ _⟩
  · cases q7 : withinB a7
    · go_enter Try.func10, Try.ntmps10
      go_wp2_with (first | (go_at_call 54; refine (bytes54_yes _ _ _ _ _ _ _ _ _ _ _ h).mono ?_; rintro e v0 ⟨rfl, rfl⟩) | (go_at_call 51; refine (zzwithin_any _ _).mono ?_; rintro e w1 ⟨rfl, rfl⟩))
      go_ret
      exact ⟨rfl, Below.refl _ _⟩
    · cases q8 : withinB a8
      · go_enter Try.func10, Try.ntmps10
        go_wp2_with (first | (go_at_call 54; refine (bytes54_yes _ _ _ _ _ _ _ _ _ _ _ h).mono ?_; rintro e v0 ⟨rfl, rfl⟩) | (go_at_call 51; refine (zzwithin_any _ _).mono ?_; rintro e w1 ⟨rfl, rfl⟩))
        go_ret
        exact ⟨rfl, Below.refl _ _⟩
      · have q9 : withinB a9 = false := by simpa [q6, q7, q8] using hl
        clear hl
        go_enter Try.func10, Try.ntmps10
        go_wp2_with (first | (go_at_call 54; refine (bytes54_yes _ _ _ _ _ _ _ _ _ _ _ h).mono ?_; rintro e v0 ⟨rfl, rfl⟩) | (go_at_call 51; refine (zzwithin_any _ _).mono ?_; rintro e w1 ⟨rfl, rfl⟩))
        go_ret
        exact ⟨rfl, Below.refl _ _⟩

end Go.Proofs.Qxb6605676a.Rs
