import Derived.Test.Qxb6605676aRs1
import Derived.Test.Qxb6605676aRm1
import Derived.Test.Qxb6605676aMf5
import Derived.Deep.MidRow
import Derived.Deep.WholeRow
import Derived.BigQuiet
import Derived.Deep.Cut
namespace Go.Proofs.Qxb6605676a.Rs
set_option linter.unusedVariables false
set_option linter.unusedSimpArgs false
open Go.RowKit Go.Proofs.Qxb6605676a.Mp Go.Proofs.Qxb6605676a.Tm Go.Proofs.Qxb6605676a.En
open Go.ChangeMaps (setBlock heap_setBlock_same)

theorem run_makeMap_hint (n : Int) (w : World) : (Instr.makeMap 111 (some (.int .i64 n))).run Try.prog w = .ok (.map (some w.heap.size)) (w.alloc (.map #[] 0)) := by
  simp [Instr.makeMap, run_underlying Try.underlying111, asInt, asIntOf, Result.andThen]

/-- One entry, laid into the map of places that was made the step before the last. -/
theorem ins_place (W : World) (o : Obj) (m : ByteArray) (v : Value) (b : Nat) (hb : b = W.heap.size) :
    (Instr.mapUpdate 111 (.map (some b)) (.string m) v).run Try.prog ((W.alloc (.map #[] 0)).alloc o) = .ok () ((W.alloc (.map #[{ key := .string m, val := v, born := 0 }] 1)).alloc o) := by
  subst hb
  have h1 : ((W.alloc (.map #[] 0)).alloc o).heap[W.heap.size]? = some (.map #[] 0) := by
    show ((W.heap.push _).push _)[W.heap.size]? = _
    rw [Array.getElem?_push, if_neg (by simp)]; simp
  have hf := keyTy9.find m [] [] ((W.alloc (.map #[] 0)).alloc o) rfl
  have hc := keyTy9.check false m ((W.alloc (.map #[] 0)).alloc o)
  have hw : setBlock ((W.alloc (.map #[] 0)).alloc o) W.heap.size (.map #[{ key := .string m, val := v, born := 0 }] 1) = (W.alloc (.map #[{ key := .string m, val := v, born := 0 }] 1)).alloc o := by
    show ({ W with heap := ((W.heap.push _).push _).setIfInBounds _ _ } : World) = { W with heap := (W.heap.push _).push _ }
    have hh : ∀ o1 o2 : Obj, ((W.heap.push o1).push o).setIfInBounds W.heap.size o2 = (W.heap.push o2).push o := by
      intro o1 o2
      apply Array.ext_getElem?
      intro i
      simp only [Array.getElem?_setIfInBounds, Array.getElem?_push, Array.size_push]
      by_cases h : W.heap.size = i
      · subst h; simp; omega
      · simp [h, Ne.symm h]
    rw [hh]
  simp only [sv, seek] at hf hc
  simp [Instr.mapUpdate, run_underlying Try.underlying111, MapKept.run_getObj_map h1, hc, hf, run_setObj_map h1, Result.andThen, hw]

/-- A place looked up in a map of one. -/
theorem look_place (W : World) (b : Nat) (m : ByteArray) (h : W.heap[b]? = some (.map #[{ key := .string m, val := .int .i64 0, born := 0 }] 1)) :
    (Instr.lookup 111 (.map (some b)) (.string m) true).run Try.prog W = .ok (.tuple #[.int .i64 0, .bool true]) W := by
  have hm : MapIs W b sv [(m, .int .i64 0)] := ⟨_, _, h, by simp [sv], by simp, by simp⟩
  have := hm.look keyTy9 Try.underlying111 (z := .int .i64 0) (fun w => by kernel_rfl) m true
  simpa [sv, Mp.get, (sameS_iff m m).2 rfl] using this

/-- A whole value into the block that was made last. -/
theorem wp_store_new {op : Oper} {a : Act} {W : World} {K : Act → World → Prop} {Q : Exit → Act → World → Prop} (ty : TypeId) (x y : Operand) (ho : op.op = .store ty x y) (c cells : Array Value)
    (hx : a.eval x = .pointer (some ⟨W.heap.size, 0, none⟩)) (hy : a.eval y = .agg cells) (hi : (Try.prog.info? ty).map (·.size) = some cells.size) (hs : c.size = cells.size) (h1 : cells.all (·.oneCell') = true)
    (h : K (a.put op.dst undef) (W.alloc (.cells cells ty))) : op.wp Try.prog a (W.alloc (.cells c ty)) K Q := by
  unfold Oper.wp execOp
  simp only [ho, hx, hy, run_storeAt_new W ty c cells hi hs h1, Result.andThen_ok, Sem.run_bind, Sem.run_pure]
  exact h

/-- A whole value out of a block. -/
theorem wp_load_row {op : Oper} {a : Act} {W : World} {K : Act → World → Prop} {Q : Exit → Act → World → Prop} (ty : TypeId) (x : Operand) (ho : op.op = .load ty x) (b o : Nat) (cells : Array Value) (d : TypeDesc)
    (hx : a.eval x = .pointer (some ⟨b, o, none⟩)) (hc : W.rangeAt b o cells.toList) (hu : Try.prog.underlying ty = some d) (hd : d.isRow = true) (hi : (Try.prog.info? ty).map (·.size) = some cells.size)
    (h : K (a.put op.dst (.agg cells)) W) : op.wp Try.prog a W K Q :=
  wp_load_mid ty x ho b o hx cells.toList d hc hu hd (by simpa using hi) (by simpa using h)

theorem rangeAt_block {W : World} {b : Nat} {cells : Array Value} {t : TypeId} (h : W.heap[b]? = some (.cells cells t)) : W.rangeAt b 0 cells.toList := by
  intro j v hv
  have : cells[j]? = some v := by simpa using hv
  simp [World.cell?, h, this]

/-- The cells of a key's state: OK, with a cooldown's end. -/
def okKey (name sensor metric sev : ByteArray) (x : Int) : Array Value :=
  #[.string name, .string sensor, .string metric, .string sev, .string ⟨#[79, 75]⟩, .int .u64 0, .int .i64 0, .pointer none, .int .u64 0, .int .i64 0, .pointer none, .string ⟨#[]⟩, .string ⟨#[]⟩, .float .f64 0, .bool false, .int .u64 0, .int .i64 0, .pointer none,
    .int .u64 (x % 1000000000), .int .i64 (x / 1000000000), .pointer none]

theorem okKey_one (name sensor metric sev : ByteArray) (x : Int) : (okKey name sensor metric sev x).all (·.oneCell') = true := by simp [okKey, Value.oneCell']

theorem grown_below {w w1 : World} (hb : Below w.heap.size w w1) (b : Nat) : w.grownBy w1 (some b) :=
  ⟨hb.os, hb.tape, hb.output, hb.size, fun k hk _ => hb.block k hk⟩

section
attribute [local go_sem] Rm.run_store_float
variable {w : World} {mb rb : Nat} {A C KB : List (Key × Value)} {LS SB : List ((ByteArray × ByteArray) × Value)}

set_option maxHeartbeats 400000 in
set_option maxRecDepth 10000 in
theorem restore_one (name metric s0 s1 sensor sev : ByteArray) (f x l : Int) (lb kb : Nat) (hx : -9223372036854775808 ≤ x) (hx' : x ≤ 9223372036854775807)
    (E : Eng w mb rb 1 #[.string name, .string metric, .slice (some ⟨lb, 0, none⟩) 2 2, .int .i64 f, .int .i64 0, .int .i64 0] [] [] [] [] [])
    (hL : Levels2 w lb s0 s1) (hk : w.heap[kb]? = some (.cells (okKey name sensor metric sev x) 107))
    (hl : (l = 0 ∧ (s0.toList == sev.toList) = true) ∨ (l = 1 ∧ (s0.toList == sev.toList) = false ∧ (s1.toList == sev.toList) = true)) :
    Calls Try.prog 16 #[.pointer (some ⟨mb + 5, 0, none⟩), .agg #[.slice (some ⟨kb, 0, none⟩) 1 1, .slice none 0 0, .slice none 0 0]] w fun e w' => e = .returned (.tuple #[.slice none 0 0, .slice none 0 0]) ∧
      Eng w' mb rb 1 #[.string name, .string metric, .slice (some ⟨lb, 0, none⟩) 2 2, .int .i64 f, .int .i64 0, .int .i64 0] [] (if x = 0 then [] else [(⟨0, l, sensor⟩, T x)]) [] [] [] ∧ w.grownBy w' (some (mb + 2)) := by
  obtain ⟨c0, c2, c3, c4, c5, c6⟩ := E.cells
  have hlt := E.lt
  have hlow := E.low
  have hrl : rb < w.heap.size := by omega
  have r0 : w.cell? ⟨rb, 0, none⟩ = some (.string name) := by simp [World.cell?, E.rul]
  have r1 : w.cell? ⟨rb, 1, none⟩ = some (.string metric) := by simp [World.cell?, E.rul]
  have r2 : w.cell? ⟨rb, 2, none⟩ = some (.slice (some ⟨lb, 0, none⟩) 2 2) := by simp [World.cell?, E.rul]
  have r3 : w.cell? ⟨rb, 3, none⟩ = some (.int .i64 f) := by simp [World.cell?, E.rul]
  have r4 : w.cell? ⟨rb, 4, none⟩ = some (.int .i64 0) := by simp [World.cell?, E.rul]
  have r5 : w.cell? ⟨rb, 5, none⟩ = some (.int .i64 0) := by simp [World.cell?, E.rul]
  have HE : Hid (Eng w mb rb 1 #[.string name, .string metric, .slice (some ⟨lb, 0, none⟩) 2 2, .int .i64 f, .int .i64 0, .int .i64 0] [] [] [] [] []) := E
  clear E
  have hmm := @run_makeMap Try.prog
  have hmh := run_makeMap_hint
  have hip := ins_place
  go_enter Try.func16, Try.ntmps16
  go_wp2
  refine wp_loop_rounds 2 ?_
  rw [rounds_succ]
  go_wp2
  rw [rounds_succ]
  go_wp2
  have hB1 := allocs_below [.cells #[.slice (some ⟨kb, 0, none⟩) 1 1, .slice none 0 0, .slice none 0 0] 37, .map #[{ key := .string name, val := .int .i64 0, born := 0 }] 1, .cells #[.string name, .string metric, .slice (some ⟨lb, 0, none⟩) 2 2, .int .i64 f, .int .i64 0, .int .i64 0] 124, .map #[] 0] w
  have hS1 := allocs_size w [.cells #[.slice (some ⟨kb, 0, none⟩) 1 1, .slice none 0 0, .slice none 0 0] 37, .map #[{ key := .string name, val := .int .i64 0, born := 0 }] 1, .cells #[.string name, .string metric, .slice (some ⟨lb, 0, none⟩) 2 2, .int .i64 f, .int .i64 0, .int .i64 0] 124, .map #[] 0]
  have hP1 := allocs_get w [.cells #[.slice (some ⟨kb, 0, none⟩) 1 1, .slice none 0 0, .slice none 0 0] 37, .map #[{ key := .string name, val := .int .i64 0, born := 0 }] 1, .cells #[.string name, .string metric, .slice (some ⟨lb, 0, none⟩) 2 2, .int .i64 f, .int .i64 0, .int .i64 0] 124, .map #[] 0] 1 (by simp)
  have hX1 := allocs_get w [.cells #[.slice (some ⟨kb, 0, none⟩) 1 1, .slice none 0 0, .slice none 0 0] 37, .map #[{ key := .string name, val := .int .i64 0, born := 0 }] 1, .cells #[.string name, .string metric, .slice (some ⟨lb, 0, none⟩) 2 2, .int .i64 f, .int .i64 0, .int .i64 0] 124, .map #[] 0] 0 (by simp)
  simp only [allocs, List.foldl_cons, List.foldl_nil, List.length_cons, List.length_nil, List.getElem?_cons_zero, List.getElem?_cons_succ, Nat.add_zero] at hB1 hS1 hP1 hX1
  generalize hW1 : World.alloc _ _ = w1
  rw [hW1] at hB1 hS1 hP1 hX1
  clear hW1
  have HS1 : Hid (w1.heap.size = w.heap.size + 4) := hS1
  clear hS1
  have hkl : kb < w.heap.size := (Array.getElem?_eq_some_iff.1 hk).1
  have x1 : w1.cell? ⟨w.heap.size, 1, none⟩ = some (.slice none 0 0) := by simp [World.cell?, hX1]
  have x2 : w1.cell? ⟨w.heap.size, 2, none⟩ = some (.slice none 0 0) := by simp [World.cell?, hX1]
  have hL1 := hL.below hB1
  replace r1 : w1.cell? ⟨rb, 1, none⟩ = _ := (hB1.cell hrl).trans r1
  replace r2 : w1.cell? ⟨rb, 2, none⟩ = _ := (hB1.cell hrl).trans r2
  replace c0 : w1.cell? ⟨mb + 5, 0, none⟩ = _ := (hB1.cell hlt).trans c0
  replace c4 : w1.cell? ⟨mb + 5, 4, none⟩ = _ := (hB1.cell hlt).trans c4
  clear r0 r3 r4 r5 c2 c3 c5 c6 hX1 hip hmh hmm hL
  refine wp_loop_rounds 2 ?_
  rw [rounds_succ]
  have hk1 : w1.heap[kb]? = some (.cells (okKey name sensor metric sev x) 107) := (hB1.block kb hkl).trans hk
  have hrange := rangeAt_block hk1
  have HR : Hid (w1.rangeAt kb 0 (okKey name sensor metric sev x).toList) := hrange
  obtain ⟨w2, hw2, hB2⟩ : ∃ w2, w2 = w1.alloc (.cells (okKey name sensor metric sev x) 107) ∧ Below w.heap.size w w2 := ⟨_, rfl, hB1.alloc hB1.size _⟩
  have hn2 : w2.heap[w1.heap.size]? = some (.cells (okKey name sensor metric sev x) 107) := by rw [hw2]; exact heap_alloc_last w1 _
  have k0 : w2.cell? ⟨w1.heap.size, 0, none⟩ = some (.string name) := by simp [World.cell?, hn2, okKey]
  have k1 : w2.cell? ⟨w1.heap.size, 1, none⟩ = some (.string sensor) := by simp [World.cell?, hn2, okKey]
  have k2 : w2.cell? ⟨w1.heap.size, 2, none⟩ = some (.string metric) := by simp [World.cell?, hn2, okKey]
  have k3 : w2.cell? ⟨w1.heap.size, 3, none⟩ = some (.string sev) := by simp [World.cell?, hn2, okKey]
  have k4 : w2.cell? ⟨w1.heap.size, 4, none⟩ = some (.string ⟨#[79, 75]⟩) := by simp [World.cell?, hn2, okKey]
  have k18 : w2.cell? ⟨w1.heap.size, 18, none⟩ = some (.int .u64 (x % 1000000000)) := by simp [World.cell?, hn2, okKey]
  have k19 : w2.cell? ⟨w1.heap.size, 19, none⟩ = some (.int .i64 (x / 1000000000)) := by simp [World.cell?, hn2, okKey]
  have k20 : w2.cell? ⟨w1.heap.size, 20, none⟩ = some (.pointer none) := by simp [World.cell?, hn2, okKey]
  have HW2 : Hid (w2 = w1.alloc (.cells (okKey name sensor metric sev x) 107)) := hw2
  have hb12 : Below w1.heap.size w1 w2 := by rw [hw2]; exact (Below.refl _ _).alloc (Nat.le_refl _) _
  have hs1 := HS1.out
  have hlk := look_place w2 (w.heap.size + 1) name ((hb12.block (w.heap.size + 1) (by omega)).trans hP1)
  replace r1 : w2.cell? ⟨rb, 1, none⟩ = _ := (hb12.cell (p := ⟨rb, 1, none⟩) (by show rb < _; omega)).trans r1
  replace r2 : w2.cell? ⟨rb, 2, none⟩ = _ := (hb12.cell (p := ⟨rb, 2, none⟩) (by show rb < _; omega)).trans r2
  replace c0 : w2.cell? ⟨mb + 5, 0, none⟩ = _ := (hb12.cell (p := ⟨mb + 5, 0, none⟩) (by show mb + 5 < _; omega)).trans c0
  replace c4 : w2.cell? ⟨mb + 5, 4, none⟩ = _ := (hb12.cell (p := ⟨mb + 5, 4, none⟩) (by show mb + 5 < _; omega)).trans c4
  replace x1 : w2.cell? ⟨w.heap.size, 1, none⟩ = _ := (hb12.cell (p := ⟨w.heap.size, 1, none⟩) (by show w.heap.size < _; omega)).trans x1
  replace x2 : w2.cell? ⟨w.heap.size, 2, none⟩ = _ := (hb12.cell (p := ⟨w.heap.size, 2, none⟩) (by show w.heap.size < _; omega)).trans x2
  have HL2 : Hid (Levels2 w2 lb s0 s1) := hL1.below hb12
  have hs2 : w2.heap.size = w1.heap.size + 1 := by rw [hw2]; simp
  have HS2 : Hid (w2.heap.size = w1.heap.size + 1) := hs2
  clear hrange hk hk1 hn2 hw2 hP1 hL1 hs1 hs2
  go_upto_region 11 with fail
  refine wp_region_lit ?_
  refine wpList_plain rfl fun K0 hK0 => ?_
  (repeat (fail_if_success (refine hK0 _ _ ?_); first | go_values | go_step | go_upon))
  refine hK0 _ _ ?_
  simp only [Act.put, List.getElem_toArray, List.getElem_cons_zero, List.getElem_cons_succ, List.setIfInBounds_toArray, List.set_cons_zero, List.set_cons_succ, Int.toNat_zero, Nat.zero_mul, Addr.add]
  refine wpList_plain rfl fun K1 hK1 => ?_
  have hi107 : (Try.prog.info? 107).map (·.size) = some (okKey name sensor metric sev x).size := by kernel_rfl
  refine wp_load_row 107 (.tmp 53) rfl kb 0 (okKey name sensor metric sev x) _ rfl HR.out Try.underlying107 rfl hi107 ?_
  refine hK1 _ _ ?_
  simp only [Act.put, List.getElem_toArray, List.getElem_cons_zero, List.getElem_cons_succ, List.setIfInBounds_toArray, List.set_cons_zero, List.set_cons_succ, Int.toNat_zero, Nat.zero_mul, Addr.add]
  refine wpList_plain rfl fun K2 hK2 => ?_
  (repeat (fail_if_success (refine hK2 _ _ ?_); first | go_values | go_step | go_upon))
  refine hK2 _ _ ?_
  simp only [Act.put, List.getElem_toArray, List.getElem_cons_zero, List.getElem_cons_succ, List.setIfInBounds_toArray, List.set_cons_zero, List.set_cons_succ, Int.toNat_zero, Nat.zero_mul, Addr.add]
  refine wpList_plain rfl fun K3 hK3 => ?_
  refine wp_store_new 107 (.tmp 12) (.tmp 54) rfl _ (okKey name sensor metric sev x) rfl rfl hi107 rfl (okKey_one _ _ _ _ _) ?_
  rw [← HW2.out]
  refine hK3 _ _ ?_
  clear hi107 hK0 hK1 hK2 hK3 K0 K1 K2 K3
  refine wpList_nil ?_
  simp only [Act.put, List.getElem_toArray, List.getElem_cons_zero, List.getElem_cons_succ, List.setIfInBounds_toArray, List.set_cons_zero, List.set_cons_succ, Int.toNat_zero, Nat.zero_mul, Addr.add]
  go_wp2_with fail
  go_quiet (fail)
  have HI : Hid (Calls Try.prog 56 #[.slice (some ⟨lb, 0, none⟩) 2 2, .func (.func 57) #[] #[.pointer (some ⟨w1.heap.size, 0, none⟩)]] (w2.drewN nq) fun e w' => e = .returned (.int .i64 l) ∧ Below (w2.drewN nq).heap.size (w2.drewN nq) w') := by
    have hb3 : Below w2.heap.size w2 (w2.drewN nq) := ⟨rfl, rfl, rfl, Nat.le_refl _, fun _ _ => rfl⟩
    have hl3 := HL2.out.below hb3
    have k3' : (w2.drewN nq).cell? ⟨w1.heap.size, 3, none⟩ = some (.string sev) := k3
    rcases hl with ⟨rfl, h0⟩ | ⟨rfl, h0, h1⟩
    · exact indexFunc_first s0 s1 sev lb _ _ hl3 k3' h0
    · exact indexFunc_second s0 s1 sev lb _ _ hl3 k3' h0 h1
  have hll : decide (l < 0) = false := by rcases hl with ⟨rfl, h0⟩ | ⟨rfl, h0, h1⟩ <;> rfl
  have HC : Hid (MapIs w (mb + 2) kv []) := HE.out.cool
  by_cases hx0 : x = 0
  · have HZ : Hid (∀ W : World, Calls Try.prog 58 #[.agg #[.int .u64 (x % 1000000000), .int .i64 (x / 1000000000), .pointer none]] W fun e w' => e = .returned (.bool true) ∧ Below W.heap.size W w') := by
      intro W
      have := iszero_any x W
      rw [decide_eq_true hx0] at this
      exact this
    have HX0 : Hid (x = 0) := hx0
    clear hx0 hl HL2 k3 r1 hlk HR
    go_wp2_with fail
    refine Calls.mono HI.out ?_
    rintro e w4 ⟨rfl, hb4⟩
    replace hb4 : Below w2.heap.size w2 w4 := Below.trans (b := w2.drewN nq) ⟨rfl, rfl, rfl, Nat.le_refl _, fun _ _ => rfl⟩ hb4
    have hs1 := HS1.out
    have hs2 := HS2.out
    have hlt2 : w1.heap.size < w2.heap.size := by omega
    have hlt3 : w.heap.size < w2.heap.size := by omega
    have hlt4 : mb + 5 < w2.heap.size := by omega
    replace k1 : w4.cell? ⟨w1.heap.size, 1, none⟩ = _ := (hb4.cell hlt2).trans k1
    replace k4 : w4.cell? ⟨w1.heap.size, 4, none⟩ = _ := (hb4.cell hlt2).trans k4
    replace k18 : w4.cell? ⟨w1.heap.size, 18, none⟩ = _ := (hb4.cell hlt2).trans k18
    replace k19 : w4.cell? ⟨w1.heap.size, 19, none⟩ = _ := (hb4.cell hlt2).trans k19
    replace k20 : w4.cell? ⟨w1.heap.size, 20, none⟩ = _ := (hb4.cell hlt2).trans k20
    replace x1 : w4.cell? ⟨w.heap.size, 1, none⟩ = _ := (hb4.cell hlt3).trans x1
    replace x2 : w4.cell? ⟨w.heap.size, 2, none⟩ = _ := (hb4.cell hlt3).trans x2
    replace c4 : w4.cell? ⟨mb + 5, 4, none⟩ = _ := (hb4.cell hlt4).trans c4
    have HS4 : Hid (w2.heap.size ≤ w4.heap.size) := hb4.size
    have hB4 : Below w.heap.size w w4 := hB2.trans (hb4.mono hB2.size)
    have hz4 := hb4.size
    have hq1 : w1.heap.size < w4.heap.size := by omega
    have hq2 : w.heap.size < w4.heap.size := by omega
    have hq3 : mb + 5 < w4.heap.size := by omega
    clear hs1 hs2 hlt2 hlt3 hlt4 k0 k2 c0 r2 hz4
    go_wp2_with (go_at_call 58; refine Calls.mono (HZ.out _) ?_; rintro e w5 ⟨rfl, hb5⟩)
    have hb5' : Below w4.heap.size w4 w5 := ((Below.refl _ _).alloc (Nat.le_refl _) _).trans (hb5.mono (by simp))
    replace x1 : w5.cell? ⟨w.heap.size, 1, none⟩ = _ := (hb5'.cell hq2).trans x1
    replace x2 : w5.cell? ⟨w.heap.size, 2, none⟩ = _ := (hb5'.cell hq2).trans x2
    have hB5 : Below w.heap.size w w5 := hB4.trans (hb5'.mono (by omega))
    clear hb5 hb5' k1 k4 k18 k19 k20 c4 HZ HI hb4
    rw [rounds_succ]
    go_wp2_with fail
    refine wp_loop_rounds 1 ?_
    rw [rounds_succ]
    go_wp2_with fail
    refine wp_loop_rounds 1 ?_
    rw [rounds_succ]
    go_wp2_with fail
    go_ret2
    refine ⟨rfl, ?_, grown_below hB5 _⟩
    first | exact HE.out.below hB5 | (rw [if_pos HX0.out]; exact HE.out.below hB5)
  · have HZ : Hid (∀ W : World, Calls Try.prog 58 #[.agg #[.int .u64 (x % 1000000000), .int .i64 (x / 1000000000), .pointer none]] W fun e w' => e = .returned (.bool false) ∧ Below W.heap.size W w') := by
      intro W
      have := iszero_any x W
      rw [decide_eq_false hx0] at this
      exact this
    have HX0 : Hid (¬ x = 0) := hx0
    clear hx0 hl HL2 k3 r1 hlk HR
    go_wp2_with fail
    refine Calls.mono HI.out ?_
    rintro e w4 ⟨rfl, hb4⟩
    replace hb4 : Below w2.heap.size w2 w4 := Below.trans (b := w2.drewN nq) ⟨rfl, rfl, rfl, Nat.le_refl _, fun _ _ => rfl⟩ hb4
    have hs1 := HS1.out
    have hs2 := HS2.out
    have hlt2 : w1.heap.size < w2.heap.size := by omega
    have hlt3 : w.heap.size < w2.heap.size := by omega
    have hlt4 : mb + 5 < w2.heap.size := by omega
    replace k1 : w4.cell? ⟨w1.heap.size, 1, none⟩ = _ := (hb4.cell hlt2).trans k1
    replace k4 : w4.cell? ⟨w1.heap.size, 4, none⟩ = _ := (hb4.cell hlt2).trans k4
    replace k18 : w4.cell? ⟨w1.heap.size, 18, none⟩ = _ := (hb4.cell hlt2).trans k18
    replace k19 : w4.cell? ⟨w1.heap.size, 19, none⟩ = _ := (hb4.cell hlt2).trans k19
    replace k20 : w4.cell? ⟨w1.heap.size, 20, none⟩ = _ := (hb4.cell hlt2).trans k20
    replace x1 : w4.cell? ⟨w.heap.size, 1, none⟩ = _ := (hb4.cell hlt3).trans x1
    replace x2 : w4.cell? ⟨w.heap.size, 2, none⟩ = _ := (hb4.cell hlt3).trans x2
    replace c4 : w4.cell? ⟨mb + 5, 4, none⟩ = _ := (hb4.cell hlt4).trans c4
    have HS4 : Hid (w2.heap.size ≤ w4.heap.size) := hb4.size
    have hB4 : Below w.heap.size w w4 := hB2.trans (hb4.mono hB2.size)
    have hz4 := hb4.size
    have hq1 : w1.heap.size < w4.heap.size := by omega
    have hq2 : w.heap.size < w4.heap.size := by omega
    have hq3 : mb + 5 < w4.heap.size := by omega
    clear hs1 hs2 hlt2 hlt3 hlt4 k0 k2 c0 r2 hz4
    go_wp2_with (go_at_call 58; refine Calls.mono (HZ.out _) ?_; rintro e w5 ⟨rfl, hb5⟩)
    obtain ⟨es, clock, hes, hes2⟩ := HC.out
    obtain ⟨es3, clock3, hE3, hup⟩ := EntriesAre.store (hes2 : EntriesAre es clock kv []) keyTy134 Try.underlying116 ⟨0, l, sensor⟩ (T x)
    simp only [kv, T, tv] at hup
    have HEE : Hid (EntriesAre es3 clock3 kv [(⟨0, l, sensor⟩, T x)]) := hE3
    have hb5' : Below w4.heap.size w4 w5 := ((Below.refl _ _).alloc (Nat.le_refl _) _).trans (hb5.mono (by simp))
    replace x1 : w5.cell? ⟨w.heap.size, 1, none⟩ = _ := (hb5'.cell hq2).trans x1
    replace x2 : w5.cell? ⟨w.heap.size, 2, none⟩ = _ := (hb5'.cell hq2).trans x2
    replace c4 : w5.cell? ⟨mb + 5, 4, none⟩ = _ := (hb5'.cell hq3).trans c4
    replace k18 : w5.cell? ⟨w1.heap.size, 18, none⟩ = _ := (hb5'.cell hq1).trans k18
    replace k19 : w5.cell? ⟨w1.heap.size, 19, none⟩ = _ := (hb5'.cell hq1).trans k19
    replace k20 : w5.cell? ⟨w1.heap.size, 20, none⟩ = _ := (hb5'.cell hq1).trans k20
    have hB5 : Below w.heap.size w w5 := hB4.trans (hb5'.mono (by omega))
    replace hes : w5.heap[mb + 2]? = some (.map es clock) := (hB5.block (mb + 2) (by omega)).trans hes
    have hkc : ∀ i v, (#[Value.int .i64 0, Value.int .i64 l, Value.string sensor] : Array Value)[i]? = some v → w5.cell? ⟨w4.heap.size, i, none⟩ = some v := by
      intro i v hv
      rw [hb5.cell (p := ⟨w4.heap.size, i, none⟩) (by simp)]
      unfold World.cell?
      rw [show (w4.alloc (.cells #[Value.int .i64 0, Value.int .i64 l, Value.string sensor] 134)).heap[w4.heap.size]? = _ from heap_alloc_last w4 _]
      exact hv
    have y0 : w5.cell? ⟨w4.heap.size, 0, none⟩ = some (.int .i64 0) := hkc 0 _ rfl
    have y1 : w5.cell? ⟨w4.heap.size, 1, none⟩ = some (.int .i64 l) := hkc 1 _ rfl
    have y2 : w5.cell? ⟨w4.heap.size, 2, none⟩ = some (.string sensor) := hkc 2 _ rfl
    have qd := heap_drew
    clear hkc hb5 hb5' k1 k4 HZ HI hb4 hes2 hE3
    go_region
    have hne : ¬ w.heap.size = mb + 2 := by omega
    have hblk : ∀ k, k ≠ mb + 2 → (setBlock w5.drew (mb + 2) (.map es3 clock3)).heap[k]? = w5.heap[k]? := by
      intro k hk
      show (w5.heap.setIfInBounds (mb + 2) _)[k]? = _
      rw [Array.getElem?_setIfInBounds_ne (by omega)]
    have z1 : (setBlock w5.drew (mb + 2) (.map es3 clock3)).cell? ⟨w.heap.size, 1, none⟩ = some (.slice none 0 0) := by
      rw [← x1]; exact World.cell?_of_block (hblk _ hne)
    have z2 : (setBlock w5.drew (mb + 2) (.map es3 clock3)).cell? ⟨w.heap.size, 2, none⟩ = some (.slice none 0 0) := by
      rw [← x2]; exact World.cell?_of_block (hblk _ hne)
    have hgr := grown_set hB5.drew (mb + 2) (.map es3 clock3)
    have hmp : MapIs (setBlock w5.drew (mb + 2) (.map es3 clock3)) (mb + 2) kv [(⟨0, l, sensor⟩, T x)] := HEE.out.at (setBlock_get (by exact hes) _)
    generalize hW6 : setBlock w5.drew (mb + 2) (.map es3 clock3) = w6
    rw [hW6] at z1 z2 hgr hmp
    have HMP : Hid (MapIs w6 (mb + 2) kv [(⟨0, l, sensor⟩, T x)]) := hmp
    clear hblk hW6 hne hmp x1 x2 hup c4 k18 k19 k20 y0 y1 y2 hes
    go_wp2_with fail
    rw [rounds_succ]
    go_wp2_with fail
    refine wp_loop_rounds 1 ?_
    rw [rounds_succ]
    go_wp2_with fail
    refine wp_loop_rounds 1 ?_
    rw [rounds_succ]
    go_wp2_with fail
    go_ret2
    refine ⟨rfl, ?_, hgr⟩
    first | exact HE.out.setCool hgr HMP.out | (rw [if_neg HX0.out]; exact HE.out.setCool hgr HMP.out)
end
end Go.Proofs.Qxb6605676a.Rs
