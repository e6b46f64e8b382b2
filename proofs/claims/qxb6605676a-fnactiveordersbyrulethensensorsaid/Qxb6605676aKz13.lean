import Derived.Test.Qxb6605676aKz12
import Derived.Test.Qxb6605676aEng3
namespace Go.Proofs.Qxb6605676a.Kz
set_option linter.unusedVariables false
set_option linter.unusedSimpArgs false
open Go.RowKit Go.Proofs.Qxb6605676a.Mp Go.Proofs.Qxb6605676a.Tm Go.Proofs.Qxb6605676a.En

theorem two_new1 (w : World) (o1 o2 : Obj) : ((w.alloc o1).alloc o2).heap[w.heap.size + 1]? = some o2 := by simpa using heap_alloc_new (w.alloc o1) o2
theorem two_new0 (w : World) (o1 o2 : Obj) : ((w.alloc o1).alloc o2).heap[w.heap.size]? = some o1 := by
  rw [heap_alloc_old (w.alloc o1) o2 (by simp)]; exact heap_alloc_new w o1

def sevsOf (two : Bool) (s0 s1 : ByteArray) : List ByteArray := if two then [s0, s1] else [s0]

set_option maxHeartbeats 400000 in
theorem zzoneRule_any (n m s0 s1 : ByteArray) (two : Bool) (w : World) :
    Calls Try.prog 14 #[.string n, .string m, .string s0, .string s1, .bool two] w fun e w' => e = .returned (.slice (some ⟨w.heap.size + 1, 0, none⟩) 1 1) ∧ Below w.heap.size w w' ∧ w.heap.size + 1 < w'.heap.size ∧ RulesAt w' (w.heap.size + 1) [⟨n, m, sevsOf two s0 s1⟩] := by
  cases two with
  | true =>
    go_enter Try.func14, Try.ntmps14
    go_wp2
    go_ret
    refine ⟨rfl, ((Below.refl _ _).alloc (Nat.le_refl _) _).alloc (by simp) _, by simp, ?_⟩
    intro i r hr
    match i, hr with
    | 0, hr =>
      simp at hr
      subst hr
      refine ⟨by unfold World.cell?; rw [two_new1]; rfl, by unfold World.cell?; rw [two_new1]; rfl, w.heap.size, by unfold World.cell?; rw [two_new1]; rfl, ?_⟩
      intro j s hs
      match j, hs with
      | 0, hs => simp [sevsOf] at hs; subst hs; unfold World.cell?; rw [two_new0]; rfl
      | 1, hs => simp [sevsOf] at hs; subst hs; unfold World.cell?; rw [two_new0]; rfl
  | false =>
    go_enter Try.func14, Try.ntmps14
    go_wp2
    go_ret
    refine ⟨rfl, ((Below.refl _ _).alloc (Nat.le_refl _) _).alloc (by simp) _, by simp, ?_⟩
    intro i r hr
    match i, hr with
    | 0, hr =>
      simp at hr
      subst hr
      refine ⟨by unfold World.cell?; rw [two_new1]; rfl, by unfold World.cell?; rw [two_new1]; rfl, w.heap.size, by unfold World.cell?; rw [two_new1]; rfl, ?_⟩
      intro j s hs
      match j, hs with
      | 0, hs => simp [sevsOf] at hs; subst hs; unfold World.cell?; rw [two_new0]; rfl

/-- The cells of a rule in the engine. -/
def ruleCells (n m : ByteArray) (lb k : Nat) (f : Int) : Array Value := #[.string n, .string m, .slice (some ⟨lb, 0, none⟩) k k, .int .i64 f, .int .i64 0, .int .i64 0]

set_option maxHeartbeats 400000 in
theorem zzengineFor_any (n m s0 s1 : ByteArray) (two : Bool) (f : Int) (w : World) :
    Calls Try.prog 15 #[.string n, .string m, .string s0, .string s1, .bool two, .int .i64 f] w fun e w' => e = .returned (.pointer (some ⟨w.heap.size + 9, 0, none⟩)) ∧ Below w.heap.size w w' ∧
      Eng w' (w.heap.size + 4) (w.heap.size + 1) 1 (ruleCells n m w.heap.size (sevsOf two s0 s1).length f) [] [] [] [] [] ∧ LevelsAt w' w.heap.size (sevsOf two s0 s1) := by
  cases two with
  | true =>
    go_enter Try.func15, Try.ntmps15
    go_wp2_with (go_at_call 52; refine Calls.mono (zzengine2_any n m s0 s1 f w) ?_; rintro e w1 ⟨rfl, h1, h2, h3⟩)
    go_ret
    refine ⟨rfl, h1, h2, ?_⟩
    intro j s hs
    match j, hs with
    | 0, hs => simp [sevsOf] at hs; subst hs; simp [World.cell?, h3]
    | 1, hs => simp [sevsOf] at hs; subst hs; simp [World.cell?, h3]
  | false =>
    go_enter Try.func15, Try.ntmps15
    go_wp2_with (go_at_call 37; refine Calls.mono (Rm.zzengine1_any n m s0 f w) ?_; rintro e w1 ⟨rfl, h1, h2, h3⟩)
    go_ret
    refine ⟨rfl, h1, h2, ?_⟩
    intro j s hs
    match j, hs with
    | 0, hs => simp [sevsOf] at hs; subst hs; simp [World.cell?, h3]

section
variable {w : World} {mb rb nr : Nat} {rs : Array Value} {A C KB : List (Key × Value)} {LS SB : List ((ByteArray × ByteArray) × Value)}

set_option maxHeartbeats 400000 in
theorem zzalarmAt_any (E : Eng w mb rb nr rs A C KB LS SB) (r l : Int) (s : ByteArray) (p : Value) (hg : (get Key.same ⟨r, l, s⟩ A).getD (.pointer none) = p) :
    Calls Try.prog 72 #[.pointer (some ⟨mb + 5, 0, none⟩), .int .i64 r, .int .i64 l, .string s] w fun e w' => e = .returned p ∧ w = w' := by
  obtain ⟨c0, c2, c3, c4, c5, c6⟩ := E.cells
  have hlook := E.alarms.look keyTy134 Try.underlying114 (z := .pointer none) (fun w => by kernel_rfl) ⟨r, l, s⟩ false
  rw [hg] at hlook
  simp only [kv] at hlook
  clear E hg
  go_enter Try.func72, Try.ntmps72
  go_wp2
  go_ret
  exact ⟨rfl, rfl⟩

set_option maxHeartbeats 400000 in
theorem zzlastAt_any (E : Eng w mb rb nr rs A C KB LS SB) (a b : ByteArray) (x : Int) (hx : -9223372036854775808 ≤ x) (hx' : x ≤ 9223372036854775807) (ok : Bool) (hg : (get sameP (a, b) LS).getD (T 0) = T x) (hok : (get sameP (a, b) LS).isSome = ok) :
    Calls Try.prog 74 #[.pointer (some ⟨mb + 5, 0, none⟩), .string a, .string b] w fun e w' => e = .returned (.tuple #[.int .i64 x, .bool ok]) ∧ Below w.heap.size w w' := by
  obtain ⟨c0, c2, c3, c4, c5, c6⟩ := E.cells
  have hlook := E.last.look keyTy141 Try.underlying115 zero67 (a, b) true
  rw [if_pos rfl, ← zero_T, hg, hok, T_def] at hlook
  simp only [pv] at hlook
  have HT : Hid (∀ W : World, Calls Try.prog 33 #[.agg #[.int .u64 (x % 1000000000), .int .i64 (x / 1000000000), .pointer none]] W fun e w' => e = .returned (.int .i64 x) ∧ Below W.heap.size W w') := fun W => zznanos_any x W hx hx'
  clear E hg hok
  go_enter Try.func74, Try.ntmps74
  go_wp2_with (go_at_call 33; refine (HT.out _).mono ?_; rintro e w1 ⟨rfl, hb1⟩)
  go_ret2
  exact ⟨rfl, ((Below.refl _ _).alloc (Nat.le_refl _) _).trans (hb1.mono (by simp))⟩

set_option maxHeartbeats 400000 in
theorem zzseriesBeforeLen_any (E : Eng w mb rb nr rs A C KB LS SB) :
    Calls Try.prog 71 #[.pointer (some ⟨mb + 5, 0, none⟩)] w fun e w' => e = .returned (.int .i64 SB.length) ∧ w = w' := by
  obtain ⟨c0, c2, c3, c4, c5, c6⟩ := E.cells
  have hlen := fun ty => E.ser.len Try.underlying118 ty
  clear E
  go_enter Try.func71, Try.ntmps71
  go_wp2
  go_ret
  exact ⟨rfl, rfl⟩
end
end Go.Proofs.Qxb6605676a.Kz
