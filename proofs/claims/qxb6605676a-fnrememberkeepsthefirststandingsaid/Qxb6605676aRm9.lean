import Derived.Test.Qxb6605676aRm8
namespace Go.Proofs.Qxb6605676a.Rm
set_option linter.unusedVariables false
set_option linter.unusedSimpArgs false
open Go.RowKit Go.Proofs.Qxb6605676a.Mp Go.Proofs.Qxb6605676a.Tm Go.Proofs.Qxb6605676a.En

set_option maxHeartbeats 400000 in
set_option maxRecDepth 10000 in
theorem copy_nil_out (r l : Int) (s : ByteArray) (c : Bool) (x : Int) (w : World) (m : s.size ≤ maxLen) (h : ¬ s.size ≤ 1048576) :
    Calls Try.prog 7 #[.int .i64 r, .int .i64 l, .string s, .pointer none, .bool c, .int .i64 x] w fun e w' => e = .returned (.bool true) ∧ Below w.heap.size w w' := by
  go_enter Try.func7, Try.ntmps7
  go_wp2_with (go_at_call 34; refine (bytes34_nil_no _ _ _ _ _ _ m h).mono ?_; rintro e w1 ⟨rfl, rfl⟩)
  go_ret
  exact ⟨rfl, Below.refl _ _⟩

set_option maxHeartbeats 400000 in
set_option maxRecDepth 10000 in
theorem copy_some_out (r l : Int) (s : ByteArray) (b o : Nat) (z : ZAl) (c : Bool) (x : Int) (w : World) (hz : ZAt w b o z) (m : s.size ≤ maxLen) (m1 : z.st.size ≤ maxLen) (m2 : z.ls.size ≤ maxLen) (m3 : z.lm.size ≤ maxLen) (h : ¬ s.size + z.st.size + z.ls.size + z.lm.size ≤ 1048576) :
    Calls Try.prog 7 #[.int .i64 r, .int .i64 l, .string s, .pointer (some ⟨b, o, none⟩), .bool c, .int .i64 x] w fun e w' => e = .returned (.bool true) ∧ Below w.heap.size w w' := by
  go_enter Try.func7, Try.ntmps7
  go_wp2_with (go_at_call 34; refine (bytes34_some_no _ _ _ _ _ _ _ _ _ hz m m1 m2 m3 h).mono ?_; rintro e w1 ⟨rfl, rfl⟩)
  go_ret
  exact ⟨rfl, Below.refl _ _⟩

theorem copy_law_nil (r l : Int) (s : ByteArray) (c : Bool) (x : Int) (hx : -9223372036854775808 ≤ x) (hx' : x ≤ 9223372036854775807) (w : World) (m : s.size ≤ maxLen) :
    Calls Try.prog 7 #[.int .i64 r, .int .i64 l, .string s, .pointer none, .bool c, .int .i64 x] w fun e w' => e = .returned (.bool true) ∧ Below w.heap.size w w' := by
  by_cases h : s.size ≤ 1048576
  · cases c
    · exact copy_nil_calm r l s x hx hx' w h
    · exact copy_nil_cool r l s x hx hx' w h
  · exact copy_nil_out r l s c x w m h

theorem copy_law_some (r l : Int) (s : ByteArray) (b o : Nat) (z : ZAl) (hok : z.Ok) (c : Bool) (x : Int) (hx : -9223372036854775808 ≤ x) (hx' : x ≤ 9223372036854775807) (w : World) (hz : ZAt w b o z) (m : s.size ≤ maxLen) (m1 : z.st.size ≤ maxLen) (m2 : z.ls.size ≤ maxLen) (m3 : z.lm.size ≤ maxLen) :
    Calls Try.prog 7 #[.int .i64 r, .int .i64 l, .string s, .pointer (some ⟨b, o, none⟩), .bool c, .int .i64 x] w fun e w' => e = .returned (.bool true) ∧ Below w.heap.size w w' := by
  by_cases h : s.size + z.st.size + z.ls.size + z.lm.size ≤ 1048576
  · cases c
    · exact copy_some_calm r l s b o z hok x hx hx' w hz h
    · exact copy_some_cool r l s b o z hok x hx hx' w hz h
  · exact copy_some_out r l s b o z c x w hz m m1 m2 m3 h
end Go.Proofs.Qxb6605676a.Rm
