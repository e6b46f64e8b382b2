import Derived.Test.Qxb6605676aRm6
import Derived.Test.Qxb6605676aRm3
namespace Go.Proofs.Qxb6605676a.Rm
set_option linter.unusedVariables false
set_option linter.unusedSimpArgs false
open Go.RowKit Go.Proofs.Qxb6605676a.Mp Go.Proofs.Qxb6605676a.Tm Go.Proofs.Qxb6605676a.En
open Go.ChangeMaps (setBlock heap_setBlock_same)

set_option maxHeartbeats 400000 in
theorem bytes34_nil_yes (r l : Int) (s : ByteArray) (c : Bool) (x : Int) (w : World) (h : s.size ≤ 1048576) :
    Calls Try.prog 34 #[.int .i64 r, .int .i64 l, .string s, .pointer none, .bool c, .int .i64 x] w fun e w' => e = .returned (.bool true) ∧ w = w' := by
  have h1 : (s.size : Int) ≤ 1048576 := by omega
  go_enter Try.func34, Try.ntmps34
  go_wp2
  go_ret
  exact ⟨rfl, rfl⟩

set_option maxHeartbeats 400000 in
theorem bytes34_nil_no (r l : Int) (s : ByteArray) (c : Bool) (x : Int) (w : World) (m : s.size ≤ maxLen) (h : ¬ s.size ≤ 1048576) :
    Calls Try.prog 34 #[.int .i64 r, .int .i64 l, .string s, .pointer none, .bool c, .int .i64 x] w fun e w' => e = .returned (.bool false) ∧ w = w' := by
  unfold maxLen at m
  have h1 : 1048576 < (s.size : Int) := by omega
  go_enter Try.func34, Try.ntmps34
  go_wp2
  go_ret
  exact ⟨rfl, rfl⟩

set_option maxHeartbeats 400000 in
theorem bytes34_some_yes (r l : Int) (s : ByteArray) (b o : Nat) (z : ZAl) (c : Bool) (x : Int) (w : World) (hz : ZAt w b o z) (h : s.size + z.st.size + z.ls.size + z.lm.size ≤ 1048576) :
    Calls Try.prog 34 #[.int .i64 r, .int .i64 l, .string s, .pointer (some ⟨b, o, none⟩), .bool c, .int .i64 x] w fun e w' => e = .returned (.bool true) ∧ w = w' := by
  obtain ⟨c0, _, _, c3, c4, _, _, _⟩ := hz
  have h1 : (s.size : Int) + z.st.size + z.ls.size + z.lm.size ≤ 1048576 := by omega
  go_enter Try.func34, Try.ntmps34
  go_wp2
  go_ret
  exact ⟨rfl, rfl⟩

set_option maxHeartbeats 400000 in
theorem bytes34_some_no (r l : Int) (s : ByteArray) (b o : Nat) (z : ZAl) (c : Bool) (x : Int) (w : World) (hz : ZAt w b o z) (m : s.size ≤ maxLen) (m1 : z.st.size ≤ maxLen) (m2 : z.ls.size ≤ maxLen) (m3 : z.lm.size ≤ maxLen) (h : ¬ s.size + z.st.size + z.ls.size + z.lm.size ≤ 1048576) :
    Calls Try.prog 34 #[.int .i64 r, .int .i64 l, .string s, .pointer (some ⟨b, o, none⟩), .bool c, .int .i64 x] w fun e w' => e = .returned (.bool false) ∧ w = w' := by
  unfold maxLen at m m1 m2 m3
  obtain ⟨c0, _, _, c3, c4, _, _, _⟩ := hz
  have h1 : 1048576 < (s.size : Int) + z.st.size + z.ls.size + z.lm.size := by omega
  go_enter Try.func34, Try.ntmps34
  go_wp2
  all_goals
    go_ret
    exact ⟨rfl, rfl⟩
end Go.Proofs.Qxb6605676a.Rm
