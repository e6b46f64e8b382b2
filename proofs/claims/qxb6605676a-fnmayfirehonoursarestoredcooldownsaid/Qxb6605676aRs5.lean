import Derived.Test.Qxb6605676aRs4
namespace Go.Proofs.Qxb6605676a.Rs
set_option linter.unusedVariables false
set_option linter.unusedSimpArgs false
open Go.RowKit Go.Proofs.Qxb6605676a.Mp Go.Proofs.Qxb6605676a.Tm Go.Proofs.Qxb6605676a.En

theorem honours_law (a0 a1 a2 a3 a4 : ByteArray) (a5 a6 a7 a8 a9 : Int) (w : World) (m0 : a0.size ≤ maxLen) (m1 : a1.size ≤ maxLen) (m2 : a2.size ≤ maxLen) (m3 : a3.size ≤ maxLen) (m4 : a4.size ≤ maxLen) :
    Calls Try.prog 10 #[.string a0, .string a1, .string a2, .string a3, .string a4, .int .i64 a5, .int .i64 a6, .int .i64 a7, .int .i64 a8, .int .i64 a9] w fun e w' => e = .returned (.bool true) ∧ Below w.heap.size w w' := by
  by_cases h : a0.size + a1.size + a2.size + a3.size + a4.size ≤ 1048576
  · cases hs : (a2.toList == a3.toList)
    · by_cases hl : a5 < 0 ∨ 1 < a5
      · exact ho_level a0 a1 a2 a3 a4 a5 a6 a7 a8 a9 w h (Or.inr hl)
      · cases q6 : withinB a6
        · exact ho_within a0 a1 a2 a3 a4 a5 a6 a7 a8 a9 w h (by omega) (by omega) hs (Or.inl q6)
        cases q7 : withinB a7
        · exact ho_within a0 a1 a2 a3 a4 a5 a6 a7 a8 a9 w h (by omega) (by omega) hs (Or.inr (Or.inl q7))
        cases q8 : withinB a8
        · exact ho_within a0 a1 a2 a3 a4 a5 a6 a7 a8 a9 w h (by omega) (by omega) hs (Or.inr (Or.inr (Or.inl q8)))
        cases q9 : withinB a9
        · exact ho_within a0 a1 a2 a3 a4 a5 a6 a7 a8 a9 w h (by omega) (by omega) hs (Or.inr (Or.inr (Or.inr q9)))
        have h01 : a5 = 0 ∨ a5 = 1 := by omega
        rcases h01 with rfl | rfl
        · exact ho_main0 a0 a1 a2 a3 a4 a6 a7 a8 a9 w h hs q6 q7 q8 q9 _ _ _ rfl rfl rfl
        · exact ho_main1 a0 a1 a2 a3 a4 a6 a7 a8 a9 w h hs q6 q7 q8 q9 _ _ _ rfl rfl rfl
    · exact ho_level a0 a1 a2 a3 a4 a5 a6 a7 a8 a9 w h (Or.inl hs)
  · exact ho_bytes a0 a1 a2 a3 a4 a5 a6 a7 a8 a9 w m0 m1 m2 m3 m4 h
end Go.Proofs.Qxb6605676a.Rs
