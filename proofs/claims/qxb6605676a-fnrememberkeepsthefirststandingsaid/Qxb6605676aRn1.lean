import Derived.Test.Qxb6605676aRm9
namespace Go.Proofs.Qxb6605676a.Rm
set_option linter.unusedVariables false
set_option linter.unusedSimpArgs false
open Go.RowKit Go.Proofs.Qxb6605676a.Mp Go.Proofs.Qxb6605676a.Tm Go.Proofs.Qxb6605676a.En
open Go.ChangeMaps (setBlock heap_setBlock_same)

/-- how far a walk has come: a mark that the walk's `simp` leaves alone -/
structure Stage (n : Nat) : Prop where
  here : True

theorem copyArg_none (w : World) : Calls Try.prog 36 #[.pointer none] w fun e w' => e = .returned (.pointer none) ∧ w = w' := by
  go_enter Try.func36, Try.ntmps36
  go_wp2
  go_ret
  exact ⟨rfl, rfl⟩

section
variable {w w' : World} {mb rb nr : Nat} {rs : Array Value} {A C KB : List (Key × Value)} {LS SB : List ((ByteArray × ByteArray) × Value)}
theorem Eng.grownOff (E : Eng w mb rb nr rs A C KB LS SB) {m : Nat} (hg : w.grownBy w' (some m)) (hm : mb + 6 ≤ m) : Eng w' mb rb nr rs A C KB LS SB :=
  E.kept fun k _ hk => hg.block k (by have := E.lt; omega) (fun e => by have := Option.some.inj e; omega)
end

set_option maxHeartbeats 1000000 in
theorem bytes47_nn_yes (r l : Int) (s : ByteArray) (k1 : Bool) (e1 : Int) (k2 : Bool) (e2 : Int) (w : World) (h : s.size ≤ 1048576) :
    Calls Try.prog 47 #[.int .i64 r, .int .i64 l, .string s, .pointer none, .pointer none, .bool k1, .int .i64 e1, .bool k2, .int .i64 e2] w fun e w' => e = .returned (.bool true) ∧ w = w' := by
  have h1 : (s.size : Int) ≤ 1048576 := by omega
  go_enter Try.func47, Try.ntmps47
  go_wp2
  go_ret
  exact ⟨rfl, rfl⟩

set_option maxHeartbeats 4000000 in
theorem bytes47_nn_no (r l : Int) (s : ByteArray) (k1 : Bool) (e1 : Int) (k2 : Bool) (e2 : Int) (w : World) (m : s.size ≤ maxLen) (h : ¬ s.size ≤ 1048576) :
    Calls Try.prog 47 #[.int .i64 r, .int .i64 l, .string s, .pointer none, .pointer none, .bool k1, .int .i64 e1, .bool k2, .int .i64 e2] w fun e w' => e = .returned (.bool false) ∧ w = w' := by
  unfold maxLen at m
  have h1 : 1048576 < (s.size : Int) := by omega
  go_enter Try.func47, Try.ntmps47
  go_wp2
  all_goals
    go_ret
    exact ⟨rfl, rfl⟩

set_option maxHeartbeats 400000 in
set_option maxRecDepth 10000 in
theorem firstOut_nn (r l : Int) (s : ByteArray) (k1 : Bool) (e1 : Int) (k2 : Bool) (e2 : Int) (w : World) (m : s.size ≤ maxLen) (h : ¬ s.size ≤ 1048576) :
    Calls Try.prog 8 #[.int .i64 r, .int .i64 l, .string s, .pointer none, .pointer none, .bool k1, .int .i64 e1, .bool k2, .int .i64 e2] w fun e w' => e = .returned (.bool true) ∧ Below w.heap.size w w' := by
  go_enter Try.func8, Try.ntmps8
  go_wp2_with (go_at_call 47; refine (bytes47_nn_no _ _ _ _ _ _ _ _ m h).mono ?_; rintro e v0 ⟨rfl, rfl⟩)
  go_ret
  exact ⟨rfl, Below.refl _ _⟩

set_option maxHeartbeats 1000000 in
theorem bytes47_ns_yes (r l : Int) (s : ByteArray) (b2 o2 : Nat) (z2 : ZAl) (k1 : Bool) (e1 : Int) (k2 : Bool) (e2 : Int) (w : World) (hz2 : ZAt w b2 o2 z2) (h : s.size + z2.st.size + z2.ls.size + z2.lm.size ≤ 1048576) :
    Calls Try.prog 47 #[.int .i64 r, .int .i64 l, .string s, .pointer none, .pointer (some ⟨b2, o2, none⟩), .bool k1, .int .i64 e1, .bool k2, .int .i64 e2] w fun e w' => e = .returned (.bool true) ∧ w = w' := by
  have h1 : (s.size : Int) + z2.st.size + z2.ls.size + z2.lm.size ≤ 1048576 := by omega
  obtain ⟨d0, _, _, d3, d4, _, _, _⟩ := hz2
  go_enter Try.func47, Try.ntmps47
  go_wp2
  go_ret
  exact ⟨rfl, rfl⟩

set_option maxHeartbeats 4000000 in
theorem bytes47_ns_no (r l : Int) (s : ByteArray) (b2 o2 : Nat) (z2 : ZAl) (k1 : Bool) (e1 : Int) (k2 : Bool) (e2 : Int) (w : World) (hz2 : ZAt w b2 o2 z2) (m : s.size ≤ maxLen) (m4 : z2.st.size ≤ maxLen) (m5 : z2.ls.size ≤ maxLen) (m6 : z2.lm.size ≤ maxLen) (h : ¬ s.size + z2.st.size + z2.ls.size + z2.lm.size ≤ 1048576) :
    Calls Try.prog 47 #[.int .i64 r, .int .i64 l, .string s, .pointer none, .pointer (some ⟨b2, o2, none⟩), .bool k1, .int .i64 e1, .bool k2, .int .i64 e2] w fun e w' => e = .returned (.bool false) ∧ w = w' := by
  unfold maxLen at m m4 m5 m6
  have h1 : 1048576 < (s.size : Int) + z2.st.size + z2.ls.size + z2.lm.size := by omega
  obtain ⟨d0, _, _, d3, d4, _, _, _⟩ := hz2
  go_enter Try.func47, Try.ntmps47
  go_wp2
  all_goals
    go_ret
    exact ⟨rfl, rfl⟩

set_option maxHeartbeats 400000 in
set_option maxRecDepth 10000 in
theorem firstOut_ns (r l : Int) (s : ByteArray) (b2 o2 : Nat) (z2 : ZAl) (k1 : Bool) (e1 : Int) (k2 : Bool) (e2 : Int) (w : World) (hz2 : ZAt w b2 o2 z2) (m : s.size ≤ maxLen) (m4 : z2.st.size ≤ maxLen) (m5 : z2.ls.size ≤ maxLen) (m6 : z2.lm.size ≤ maxLen) (h : ¬ s.size + z2.st.size + z2.ls.size + z2.lm.size ≤ 1048576) :
    Calls Try.prog 8 #[.int .i64 r, .int .i64 l, .string s, .pointer none, .pointer (some ⟨b2, o2, none⟩), .bool k1, .int .i64 e1, .bool k2, .int .i64 e2] w fun e w' => e = .returned (.bool true) ∧ Below w.heap.size w w' := by
  go_enter Try.func8, Try.ntmps8
  go_wp2_with (go_at_call 47; refine (bytes47_ns_no _ _ _ _ _ _ _ _ _ _ _ hz2 m m4 m5 m6 h).mono ?_; rintro e v0 ⟨rfl, rfl⟩)
  go_ret
  exact ⟨rfl, Below.refl _ _⟩

set_option maxHeartbeats 1000000 in
theorem bytes47_sn_yes (r l : Int) (s : ByteArray) (b1 o1 : Nat) (z1 : ZAl) (k1 : Bool) (e1 : Int) (k2 : Bool) (e2 : Int) (w : World) (hz1 : ZAt w b1 o1 z1) (h : s.size + z1.st.size + z1.ls.size + z1.lm.size ≤ 1048576) :
    Calls Try.prog 47 #[.int .i64 r, .int .i64 l, .string s, .pointer (some ⟨b1, o1, none⟩), .pointer none, .bool k1, .int .i64 e1, .bool k2, .int .i64 e2] w fun e w' => e = .returned (.bool true) ∧ w = w' := by
  have h1 : (s.size : Int) + z1.st.size + z1.ls.size + z1.lm.size ≤ 1048576 := by omega
  obtain ⟨c0, _, _, c3, c4, _, _, _⟩ := hz1
  go_enter Try.func47, Try.ntmps47
  go_wp2
  go_ret
  exact ⟨rfl, rfl⟩

set_option maxHeartbeats 4000000 in
theorem bytes47_sn_no (r l : Int) (s : ByteArray) (b1 o1 : Nat) (z1 : ZAl) (k1 : Bool) (e1 : Int) (k2 : Bool) (e2 : Int) (w : World) (hz1 : ZAt w b1 o1 z1) (m : s.size ≤ maxLen) (m1 : z1.st.size ≤ maxLen) (m2 : z1.ls.size ≤ maxLen) (m3 : z1.lm.size ≤ maxLen) (h : ¬ s.size + z1.st.size + z1.ls.size + z1.lm.size ≤ 1048576) :
    Calls Try.prog 47 #[.int .i64 r, .int .i64 l, .string s, .pointer (some ⟨b1, o1, none⟩), .pointer none, .bool k1, .int .i64 e1, .bool k2, .int .i64 e2] w fun e w' => e = .returned (.bool false) ∧ w = w' := by
  unfold maxLen at m m1 m2 m3
  have h1 : 1048576 < (s.size : Int) + z1.st.size + z1.ls.size + z1.lm.size := by omega
  obtain ⟨c0, _, _, c3, c4, _, _, _⟩ := hz1
  go_enter Try.func47, Try.ntmps47
  go_wp2
  all_goals
    go_ret
    exact ⟨rfl, rfl⟩

set_option maxHeartbeats 400000 in
set_option maxRecDepth 10000 in
theorem firstOut_sn (r l : Int) (s : ByteArray) (b1 o1 : Nat) (z1 : ZAl) (k1 : Bool) (e1 : Int) (k2 : Bool) (e2 : Int) (w : World) (hz1 : ZAt w b1 o1 z1) (m : s.size ≤ maxLen) (m1 : z1.st.size ≤ maxLen) (m2 : z1.ls.size ≤ maxLen) (m3 : z1.lm.size ≤ maxLen) (h : ¬ s.size + z1.st.size + z1.ls.size + z1.lm.size ≤ 1048576) :
    Calls Try.prog 8 #[.int .i64 r, .int .i64 l, .string s, .pointer (some ⟨b1, o1, none⟩), .pointer none, .bool k1, .int .i64 e1, .bool k2, .int .i64 e2] w fun e w' => e = .returned (.bool true) ∧ Below w.heap.size w w' := by
  go_enter Try.func8, Try.ntmps8
  go_wp2_with (go_at_call 47; refine (bytes47_sn_no _ _ _ _ _ _ _ _ _ _ _ hz1 m m1 m2 m3 h).mono ?_; rintro e v0 ⟨rfl, rfl⟩)
  go_ret
  exact ⟨rfl, Below.refl _ _⟩

set_option maxHeartbeats 1000000 in
theorem bytes47_ss_yes (r l : Int) (s : ByteArray) (b1 o1 : Nat) (z1 : ZAl) (b2 o2 : Nat) (z2 : ZAl) (k1 : Bool) (e1 : Int) (k2 : Bool) (e2 : Int) (w : World) (hz1 : ZAt w b1 o1 z1) (hz2 : ZAt w b2 o2 z2) (h : s.size + z1.st.size + z1.ls.size + z1.lm.size + z2.st.size + z2.ls.size + z2.lm.size ≤ 1048576) :
    Calls Try.prog 47 #[.int .i64 r, .int .i64 l, .string s, .pointer (some ⟨b1, o1, none⟩), .pointer (some ⟨b2, o2, none⟩), .bool k1, .int .i64 e1, .bool k2, .int .i64 e2] w fun e w' => e = .returned (.bool true) ∧ w = w' := by
  have h1 : (s.size : Int) + z1.st.size + z1.ls.size + z1.lm.size + z2.st.size + z2.ls.size + z2.lm.size ≤ 1048576 := by omega
  obtain ⟨c0, _, _, c3, c4, _, _, _⟩ := hz1
  obtain ⟨d0, _, _, d3, d4, _, _, _⟩ := hz2
  go_enter Try.func47, Try.ntmps47
  go_wp2
  go_ret
  exact ⟨rfl, rfl⟩

set_option maxHeartbeats 4000000 in
theorem bytes47_ss_no (r l : Int) (s : ByteArray) (b1 o1 : Nat) (z1 : ZAl) (b2 o2 : Nat) (z2 : ZAl) (k1 : Bool) (e1 : Int) (k2 : Bool) (e2 : Int) (w : World) (hz1 : ZAt w b1 o1 z1) (hz2 : ZAt w b2 o2 z2) (m : s.size ≤ maxLen) (m1 : z1.st.size ≤ maxLen) (m2 : z1.ls.size ≤ maxLen) (m3 : z1.lm.size ≤ maxLen) (m4 : z2.st.size ≤ maxLen) (m5 : z2.ls.size ≤ maxLen) (m6 : z2.lm.size ≤ maxLen) (h : ¬ s.size + z1.st.size + z1.ls.size + z1.lm.size + z2.st.size + z2.ls.size + z2.lm.size ≤ 1048576) :
    Calls Try.prog 47 #[.int .i64 r, .int .i64 l, .string s, .pointer (some ⟨b1, o1, none⟩), .pointer (some ⟨b2, o2, none⟩), .bool k1, .int .i64 e1, .bool k2, .int .i64 e2] w fun e w' => e = .returned (.bool false) ∧ w = w' := by
  unfold maxLen at m m1 m2 m3 m4 m5 m6
  have h1 : 1048576 < (s.size : Int) + z1.st.size + z1.ls.size + z1.lm.size + z2.st.size + z2.ls.size + z2.lm.size := by omega
  obtain ⟨c0, _, _, c3, c4, _, _, _⟩ := hz1
  obtain ⟨d0, _, _, d3, d4, _, _, _⟩ := hz2
  go_enter Try.func47, Try.ntmps47
  go_wp2
  all_goals
    go_ret
    exact ⟨rfl, rfl⟩

set_option maxHeartbeats 400000 in
set_option maxRecDepth 10000 in
theorem firstOut_ss (r l : Int) (s : ByteArray) (b1 o1 : Nat) (z1 : ZAl) (b2 o2 : Nat) (z2 : ZAl) (k1 : Bool) (e1 : Int) (k2 : Bool) (e2 : Int) (w : World) (hz1 : ZAt w b1 o1 z1) (hz2 : ZAt w b2 o2 z2) (m : s.size ≤ maxLen) (m1 : z1.st.size ≤ maxLen) (m2 : z1.ls.size ≤ maxLen) (m3 : z1.lm.size ≤ maxLen) (m4 : z2.st.size ≤ maxLen) (m5 : z2.ls.size ≤ maxLen) (m6 : z2.lm.size ≤ maxLen) (h : ¬ s.size + z1.st.size + z1.ls.size + z1.lm.size + z2.st.size + z2.ls.size + z2.lm.size ≤ 1048576) :
    Calls Try.prog 8 #[.int .i64 r, .int .i64 l, .string s, .pointer (some ⟨b1, o1, none⟩), .pointer (some ⟨b2, o2, none⟩), .bool k1, .int .i64 e1, .bool k2, .int .i64 e2] w fun e w' => e = .returned (.bool true) ∧ Below w.heap.size w w' := by
  go_enter Try.func8, Try.ntmps8
  go_wp2_with (go_at_call 47; refine (bytes47_ss_no _ _ _ _ _ _ _ _ _ _ _ _ _ _ hz1 hz2 m m1 m2 m3 m4 m5 m6 h).mono ?_; rintro e v0 ⟨rfl, rfl⟩)
  go_ret
  exact ⟨rfl, Below.refl _ _⟩

end Go.Proofs.Qxb6605676a.Rm
