import Derived.Test.Qxb6605676aMf4
namespace Go.Proofs.Qxb6605676a.En
set_option linter.unusedVariables false
set_option linter.unusedSimpArgs false
open Go.RowKit Go.Proofs.Qxb6605676a.Mp Go.Proofs.Qxb6605676a.Tm
open Go.ChangeMaps (setBlock heap_setBlock_same)

/-- Within the span of the laws, 2^61. -/
def withinB (x : Int) : Bool := decide (-2305843009213693952 ≤ x ∧ x ≤ 2305843009213693952)

set_option maxHeartbeats 400000 in
theorem zzwithin_any (x : Int) (w : World) : Calls Try.prog 51 #[.int .i64 x] w fun e w' => e = .returned (.bool (withinB x)) ∧ w' = w := by
  by_cases h : -2305843009213693952 ≤ x
  · go_enter Try.func51, Try.ntmps51
    go_wp2
    go_ret
    exact ⟨ret_bool (by simp [withinB, h]), rfl⟩
  · have hd : decide (-2305843009213693952 ≤ x) = false := by simpa using h
    go_enter Try.func51, Try.ntmps51
    go_wp2
    go_ret
    exact ⟨ret_bool (by simp [withinB]; omega), rfl⟩

set_option maxHeartbeats 400000 in
theorem bytes50_yes (l : Int) (s : ByteArray) (a b c : Int) (k : Bool) (cl : Int) (cs : ByteArray) (d : Int) (w : World) (h : s.size + cs.size ≤ 1048576) :
    Calls Try.prog 50 #[.int .i64 l, .string s, .int .i64 a, .int .i64 b, .int .i64 c, .bool k, .int .i64 cl, .string cs, .int .i64 d] w fun e w' => e = .returned (.bool true) ∧ w' = w := by
  have h1 : (s.size : Int) ≤ 1048576 := by omega
  have h2 : (cs.size : Int) ≤ 1048576 := by omega
  have h3 : (s.size : Int) + cs.size ≤ 1048576 := by omega
  go_enter Try.func50, Try.ntmps50
  go_wp2
  go_ret
  exact ⟨rfl, rfl⟩

set_option maxHeartbeats 400000 in
theorem bytes50_no (l : Int) (s : ByteArray) (a b c : Int) (k : Bool) (cl : Int) (cs : ByteArray) (d : Int) (w : World) (m1 : s.size ≤ maxLen) (m2 : cs.size ≤ maxLen) (h : ¬ s.size + cs.size ≤ 1048576) :
    Calls Try.prog 50 #[.int .i64 l, .string s, .int .i64 a, .int .i64 b, .int .i64 c, .bool k, .int .i64 cl, .string cs, .int .i64 d] w fun e w' => e = .returned (.bool false) ∧ w' = w := by
  unfold maxLen at m1 m2
  have h3 : 1048576 < (s.size : Int) + cs.size := by omega
  go_enter Try.func50, Try.ntmps50
  go_wp2
  all_goals
    go_ret
    exact ⟨rfl, rfl⟩

section
variable {w w' : World} {mb rb nr : Nat} {rs : Array Value} {A C KB : List (Key × Value)} {LS SB : List ((ByteArray × ByteArray) × Value)}
theorem Eng.setCool (E : Eng w mb rb nr rs A C KB LS SB) (hg : w.grownBy w' (some (mb + 2))) {C' : List (Key × Value)} (hm : MapIs w' (mb + 2) kv C') : Eng w' mb rb nr rs A C' KB LS SB := by
  have hl := E.low
  have hlt := E.lt
  have hk : ∀ k, k < mb + 6 → k ≠ mb + 2 → w'.heap[k]? = w.heap[k]? := fun k h1 h2 => hg.block k (by omega) (fun e => h2 (Option.some.inj e))
  refine ⟨hl, ?_, ?_, E.alarms.of_block (hk _ (by omega) (by omega)), E.last.of_block (hk _ (by omega) (by omega)), hm, E.keys.of_block (hk _ (by omega) (by omega)), E.ser.of_block (hk _ (by omega) (by omega))⟩
  · obtain ⟨r, hr⟩ := E.eng
    exact ⟨r, by rw [hk _ (by omega) (by omega)]; exact hr⟩
  · rw [hk _ (by omega) (by omega)]; exact E.rul
end
end Go.Proofs.Qxb6605676a.En
