import Derived.Test.Qxb6605845aS21
namespace Go.Proofs.Qxb6605845a.Ec
set_option linter.unusedVariables false
set_option linter.unusedSimpArgs false
open Go.RowKit

theorem sz_at {α} (f : α → Nat) : ∀ (L : List α) (j : Nat) (x : α), L[j]? = some x → f x ≤ sz f L := by
  intro L
  induction L with
  | nil => intro j x h; simp at h
  | cons y L ih =>
    intro j x h
    rw [sz_cons]
    cases j with
    | zero => simp at h; subst h; omega
    | succ j => have := ih j x (by simpa using h); omega

theorem Below.step {w W W2 : World} (h : Below w.heap.size w W) (h2 : Below W.heap.size W W2) : Below w.heap.size w W2 := h.trans (h2.mono h.size)

set_option maxHeartbeats 1000000 in
set_option maxRecDepth 100000 in
theorem law_q1 (k : Int) (site : ByteArray) (node : Int) (idSeq : Nat) (P : List Int) (ticket : Nat) (RT RK WT WK : List ByteArray) (WV : List (Option (List UInt8))) (seq : Nat) (ap a1 a2 a3 a4 a5 : Option Addr) (cp c1 c2 c3 c4 c5 : Nat) (w : World)
    (hp : IArg w ap P) (h1 : SArg w a1 RT) (h2 : SArg w a2 RK) (h3 : SArg w a3 WT) (h4 : SArg w a4 WK) (h5 : VArg w a5 WV)
    (np : ap = none → cp = 0) (n1 : a1 = none → c1 = 0) (n2 : a2 = none → c2 = 0) (n3 : a3 = none → c3 = 0) (n4 : a4 = none → c4 = 0) (n5 : a5 = none → c5 = 0)
    (ls : site.size < 2 ^ 63) (lp : P.length < 2 ^ 63) (l1 : RT.length < 2 ^ 63) (l2 : RK.length < 2 ^ 63) (l3 : WT.length < 2 ^ 63) (l4 : WK.length < 2 ^ 63) (l5 : WV.length < 2 ^ 63)
    (i1 : idSeq < 2 ^ 64) (i2 : ticket < 2 ^ 64) (i3 : seq < 2 ^ 64) (q1 : 65536 < P.length) :
    Calls Try.prog 5 #[.int .u8 k, .string site, .int .i64 node, .int .u64 idSeq, .slice ap P.length cp, .int .u64 ticket, .slice a1 RT.length c1, .slice a2 RK.length c2, .slice a3 WT.length c3, .slice a4 WK.length c4, .slice a5 WV.length c5, .int .u64 seq] w fun e w' => e = .returned (.bool true) ∧ Below w.heap.size w w' := by
  have H18 : Hid (Calls Try.prog 18 #[.int .u8 k, .string site, .int .i64 node, .int .u64 idSeq, .slice ap P.length cp, .int .u64 ticket, .slice a1 RT.length c1, .slice a2 RK.length c2, .slice a3 WT.length c3, .slice a4 WK.length c4, .slice a5 WV.length c5, .int .u64 seq] w fun e w' => RB e ∧ w = w') := zzbytes18 k site node idSeq ap P.length cp ticket RT RK WT WK WV a1 a2 a3 a4 a5 c1 c2 c3 c4 c5 seq w h1 h2 h3 h4 h5 (by omega) (by omega) (by omega) (by omega) (by omega) (by omega) (by omega)
  go_enter Try.func5, Try.ntmps5
  go_wp2_with (go_at_call 18; refine Calls.mono H18.out ?_; rintro _ _ ⟨⟨b, rfl⟩, rfl⟩; cases b)
  all_goals (go_ret; exact ⟨rfl, Below.refl _ _⟩)

set_option maxHeartbeats 1000000 in
set_option maxRecDepth 100000 in
theorem law_q2 (k : Int) (site : ByteArray) (node : Int) (idSeq : Nat) (P : List Int) (ticket : Nat) (RT RK WT WK : List ByteArray) (WV : List (Option (List UInt8))) (seq : Nat) (ap a1 a2 a3 a4 a5 : Option Addr) (cp c1 c2 c3 c4 c5 : Nat) (w : World)
    (hp : IArg w ap P) (h1 : SArg w a1 RT) (h2 : SArg w a2 RK) (h3 : SArg w a3 WT) (h4 : SArg w a4 WK) (h5 : VArg w a5 WV)
    (np : ap = none → cp = 0) (n1 : a1 = none → c1 = 0) (n2 : a2 = none → c2 = 0) (n3 : a3 = none → c3 = 0) (n4 : a4 = none → c4 = 0) (n5 : a5 = none → c5 = 0)
    (ls : site.size < 2 ^ 63) (lp : P.length < 2 ^ 63) (l1 : RT.length < 2 ^ 63) (l2 : RK.length < 2 ^ 63) (l3 : WT.length < 2 ^ 63) (l4 : WK.length < 2 ^ 63) (l5 : WV.length < 2 ^ 63)
    (i1 : idSeq < 2 ^ 64) (i2 : ticket < 2 ^ 64) (i3 : seq < 2 ^ 64) (q1 : ¬ 65536 < P.length) (q2 : 1048576 < site.size) :
    Calls Try.prog 5 #[.int .u8 k, .string site, .int .i64 node, .int .u64 idSeq, .slice ap P.length cp, .int .u64 ticket, .slice a1 RT.length c1, .slice a2 RK.length c2, .slice a3 WT.length c3, .slice a4 WK.length c4, .slice a5 WV.length c5, .int .u64 seq] w fun e w' => e = .returned (.bool true) ∧ Below w.heap.size w w' := by
  have H18 : Hid (Calls Try.prog 18 #[.int .u8 k, .string site, .int .i64 node, .int .u64 idSeq, .slice ap P.length cp, .int .u64 ticket, .slice a1 RT.length c1, .slice a2 RK.length c2, .slice a3 WT.length c3, .slice a4 WK.length c4, .slice a5 WV.length c5, .int .u64 seq] w fun e w' => RB e ∧ w = w') := zzbytes18 k site node idSeq ap P.length cp ticket RT RK WT WK WV a1 a2 a3 a4 a5 c1 c2 c3 c4 c5 seq w h1 h2 h3 h4 h5 (by omega) (by omega) (by omega) (by omega) (by omega) (by omega) (by omega)
  go_enter Try.func5, Try.ntmps5
  go_wp2_with (go_at_call 18; refine Calls.mono H18.out ?_; rintro _ _ ⟨⟨b, rfl⟩, rfl⟩; cases b)
  all_goals (go_ret; exact ⟨rfl, Below.refl _ _⟩)

set_option maxHeartbeats 1000000 in
set_option maxRecDepth 100000 in
theorem law_bad (k : Int) (site : ByteArray) (node : Int) (idSeq : Nat) (P : List Int) (ticket : Nat) (RT RK WT WK : List ByteArray) (WV : List (Option (List UInt8))) (seq : Nat) (ap a1 a2 a3 a4 a5 : Option Addr) (cp c1 c2 c3 c4 c5 : Nat) (w : World)
    (hp : IArg w ap P) (h1 : SArg w a1 RT) (h2 : SArg w a2 RK) (h3 : SArg w a3 WT) (h4 : SArg w a4 WK) (h5 : VArg w a5 WV)
    (np : ap = none → cp = 0) (n1 : a1 = none → c1 = 0) (n2 : a2 = none → c2 = 0) (n3 : a3 = none → c3 = 0) (n4 : a4 = none → c4 = 0) (n5 : a5 = none → c5 = 0)
    (ls : site.size < 2 ^ 63) (lp : P.length < 2 ^ 63) (l1 : RT.length < 2 ^ 63) (l2 : RK.length < 2 ^ 63) (l3 : WT.length < 2 ^ 63) (l4 : WK.length < 2 ^ 63) (l5 : WV.length < 2 ^ 63)
    (i1 : idSeq < 2 ^ 64) (i2 : ticket < 2 ^ 64) (i3 : seq < 2 ^ 64) (q1 : ¬ 65536 < P.length) (q2 : ¬ 1048576 < site.size) (k1 : k ≠ 1) (k2 : k ≠ 2) (k3 : k ≠ 3) (k4 : k ≠ 4) (k5 : k ≠ 5) (k6 : k ≠ 6) (k7 : k ≠ 7) :
    Calls Try.prog 5 #[.int .u8 k, .string site, .int .i64 node, .int .u64 idSeq, .slice ap P.length cp, .int .u64 ticket, .slice a1 RT.length c1, .slice a2 RK.length c2, .slice a3 WT.length c3, .slice a4 WK.length c4, .slice a5 WV.length c5, .int .u64 seq] w fun e w' => e = .returned (.bool true) ∧ Below w.heap.size w w' := by
  have H18 : Hid (Calls Try.prog 18 #[.int .u8 k, .string site, .int .i64 node, .int .u64 idSeq, .slice ap P.length cp, .int .u64 ticket, .slice a1 RT.length c1, .slice a2 RK.length c2, .slice a3 WT.length c3, .slice a4 WK.length c4, .slice a5 WV.length c5, .int .u64 seq] w fun e w' => RB e ∧ w = w') := zzbytes18 k site node idSeq ap P.length cp ticket RT RK WT WK WV a1 a2 a3 a4 a5 c1 c2 c3 c4 c5 seq w h1 h2 h3 h4 h5 (by omega) (by omega) (by omega) (by omega) (by omega) (by omega) (by omega)
  have HS1 : Hid (Calls Try.prog 8 #[.slice a1 RT.length c1] w _) := zzstringsBytes RT a1 c1 w h1 l1
  have HS2 : Hid (Calls Try.prog 8 #[.slice a2 RK.length c2] w _) := zzstringsBytes RK a2 c2 w h2 l2
  have HS3 : Hid (Calls Try.prog 8 #[.slice a3 WT.length c3] w _) := zzstringsBytes WT a3 c3 w h3 l3
  have HS4 : Hid (Calls Try.prog 8 #[.slice a4 WK.length c4] w _) := zzstringsBytes WK a4 c4 w h4 l4
  have HS5 : Hid (Calls Try.prog 9 #[.slice a5 WV.length c5] w _) := zzbytesBytes WV a5 c5 w h5 l5
  clear h1 h2 h3 h4 h5 hp
  have e1 : (k != 1) = true := by simp [k1]
  have e2 : (k != 2) = true := by simp [k2]
  have e3 : (k != 3) = true := by simp [k3]
  have e4 : (k != 4) = true := by simp [k4]
  have e5 : (k != 5) = true := by simp [k5]
  have e6 : (k != 6) = true := by simp [k6]
  have e7 : (k != 7) = true := by simp [k7]
  clear k1 k2 k3 k4 k5 k6 k7
  go_enter Try.func5, Try.ntmps5
  go_wp2_with (first
    | (go_at_call 18; refine Calls.mono H18.out ?_; rintro _ _ ⟨⟨bb, rfl⟩, rfl⟩; cases bb)
    | (go_at_call_of 8 (Value.slice a1 RT.length c1); refine Calls.mono HS1.out ?_; rintro _ _ ⟨m1, rfl, p1, f1, rfl⟩)
    | (go_at_call_of 8 (Value.slice a2 RK.length c2); refine Calls.mono HS2.out ?_; rintro _ _ ⟨m2, rfl, p2, f2, rfl⟩)
    | (go_at_call_of 8 (Value.slice a3 WT.length c3); refine Calls.mono HS3.out ?_; rintro _ _ ⟨m3, rfl, p3, f3, rfl⟩)
    | (go_at_call_of 8 (Value.slice a4 WK.length c4); refine Calls.mono HS4.out ?_; rintro _ _ ⟨m4, rfl, p4, f4, rfl⟩)
    | (go_at_call 9; refine Calls.mono HS5.out ?_; rintro _ _ ⟨m5, rfl, p5, f5, rfl⟩))
  all_goals (go_ret; exact ⟨rfl, Below.refl _ _⟩)

end Go.Proofs.Qxb6605845a.Ec
