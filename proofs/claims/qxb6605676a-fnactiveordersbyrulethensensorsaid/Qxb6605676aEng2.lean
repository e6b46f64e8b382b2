import Derived.Test.Qxb6605676aEng
namespace Go.Proofs.Qxb6605676a.En
set_option linter.unusedVariables false
set_option linter.unusedSimpArgs false
open Go.RowKit Go.Proofs.Qxb6605676a.Mp Go.Proofs.Qxb6605676a.Tm
open Go.ChangeMaps (setBlock heap_setBlock_same)

theorem zero67 (w : World) : (zeroValue 67).run Try.prog w = .ok (.agg #[.int .u64 0, .int .i64 0, .pointer none]) w := by kernel_rfl

theorem grown_set {w w1 : World} (hb : Below w.heap.size w w1) (b : Nat) (o : Obj) : w.grownBy (setBlock w1 b o) (some b) := by
  have h := setBlock_grown w1 b o
  exact ⟨h.os.trans hb.os, h.tape.trans hb.tape, h.output.trans hb.output, Nat.le_trans hb.size h.size, fun k hk hne => (h.block k (Nat.lt_of_lt_of_le hk hb.size) hne).trans (hb.block k hk)⟩

section
variable {w : World} {mb rb nr : Nat} {rs : Array Value} {A C KB : List (Key × Value)} {LS SB : List ((ByteArray × ByteArray) × Value)}

set_option maxHeartbeats 400000 in
set_option maxRecDepth 10000 in
theorem zzset_any (E : Eng w mb rb nr rs A C KB LS SB) (r l : Int) (s : ByteArray) (x : Int) (hx : -9223372036854775808 ≤ x) (hx' : x ≤ 9223372036854775807) :
    Calls Try.prog 38 #[.pointer (some ⟨mb + 5, 0, none⟩), .int .i64 r, .int .i64 l, .string s, .int .i64 x] w fun e w' => e = .returned (.tuple #[]) ∧ w.grownBy w' (some (mb + 2)) ∧ MapIs w' (mb + 2) kv (put Key.same ⟨r, l, s⟩ (T x) C) := by
  obtain ⟨c0, c2, c3, c4, c5, c6⟩ := E.cells
  have hlt := E.lt
  have hcool := E.cool
  have HT : Hid (∀ W : World, Calls Try.prog 55 #[.int .i64 x] W fun e w' => e = .returned (.agg #[.int .u64 (x % 1000000000), .int .i64 (x / 1000000000), .pointer none]) ∧ Below W.heap.size W w') := fun W => zztime_any x W hx hx'
  clear E
  go_enter Try.func38, Try.ntmps38
  go_region_with (go_at_call 55; refine (HT.out _).mono ?_; rintro e w1 ⟨rfl, hb1⟩; have k4 : w1.cell? ⟨mb + 5, 4, none⟩ = some (.map (some (mb + 2))) := (hb1.cell (p := ⟨mb + 5, 4, none⟩) (by simp; omega)).trans c4; obtain ⟨o, hrun, hm⟩ := MapIs.store (hcool.of_block (hb1.block (mb + 2) (by simp; omega))) keyTy134 Try.underlying116 ⟨r, l, s⟩ (T x); have HM : Hid _ := hm; clear hm; simp only [kv, T, tv] at hrun)
  all_goals
    go_end0
    exact ⟨rfl, grown_set ((Below.refl _ _).drew.trans hb1) _ _, HM.out⟩

theorem zero_T : T 0 = .agg #[.int .u64 0, .int .i64 0, .pointer none] := rfl
theorem T_def (x : Int) : T x = .agg #[.int .u64 (x % 1000000000), .int .i64 (x / 1000000000), .pointer none] := rfl

set_option maxHeartbeats 400000 in
set_option maxRecDepth 10000 in
theorem zzcoolat_any (E : Eng w mb rb nr rs A C KB LS SB) (r l : Int) (s : ByteArray) (x : Int) (hx : -9223372036854775808 ≤ x) (hx' : x ≤ 9223372036854775807) (ok : Bool) (hg : (get Key.same ⟨r, l, s⟩ C).getD (T 0) = T x) (hok : (get Key.same ⟨r, l, s⟩ C).isSome = ok) :
    Calls Try.prog 44 #[.pointer (some ⟨mb + 5, 0, none⟩), .int .i64 r, .int .i64 l, .string s] w fun e w' => e = .returned (.tuple #[.int .i64 x, .bool ok]) ∧ Below w.heap.size w w' := by
  obtain ⟨c0, c2, c3, c4, c5, c6⟩ := E.cells
  have hlt := E.lt
  have hlook := E.cool.look keyTy134 Try.underlying116 zero67 ⟨r, l, s⟩ true
  rw [if_pos rfl, ← zero_T, hg, hok, T_def] at hlook
  simp only [kv] at hlook
  have HT : Hid (∀ W : World, Calls Try.prog 33 #[.agg #[.int .u64 (x % 1000000000), .int .i64 (x / 1000000000), .pointer none]] W fun e w' => e = .returned (.int .i64 x) ∧ Below W.heap.size W w') := fun W => zznanos_any x W hx hx'
  clear E hg hok
  go_enter Try.func44, Try.ntmps44
  go_wp2_with (go_at_call 33; refine (HT.out _).mono ?_; rintro e w1 ⟨rfl, hb1⟩)
  go_ret2
  exact ⟨rfl, ((Below.refl _ _).alloc (Nat.le_refl _) _).trans (hb1.mono (by simp))⟩

set_option maxHeartbeats 400000 in
set_option maxRecDepth 10000 in
theorem zzsizes_any (E : Eng w mb rb nr rs A C KB LS SB) :
    Calls Try.prog 43 #[.pointer (some ⟨mb + 5, 0, none⟩)] w fun e w' => e = .returned (.tuple #[.int .i64 A.length, .int .i64 C.length, .int .i64 LS.length, .int .i64 KB.length]) ∧ Below w.heap.size w w' := by
  obtain ⟨c0, c2, c3, c4, c5, c6⟩ := E.cells
  have l1 := fun nq => (E.alarms.of_block (w' := w.drewN nq) rfl).len Try.underlying114 3
  have l2 := fun nq => (E.cool.of_block (w' := w.drewN nq) rfl).len Try.underlying116 3
  have l3 := fun nq => (E.last.of_block (w' := w.drewN nq) rfl).len Try.underlying115 3
  have l4 := fun nq => (E.keys.of_block (w' := w.drewN nq) rfl).len Try.underlying117 3
  clear E
  go_enter Try.func43, Try.ntmps43
  go_wp2
  go_quiet (fail)
  go_wp2
  exact bodyPost_ret (v := .tuple #[.int .i64 A.length, .int .i64 C.length, .int .i64 LS.length, .int .i64 KB.length]) (by simp [results, Try.results43, go_sem]) rfl ⟨rfl, below_drewN (Below.refl _ _) _⟩
end
end Go.Proofs.Qxb6605676a.En
