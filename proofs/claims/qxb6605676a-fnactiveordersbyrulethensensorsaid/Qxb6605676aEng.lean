import Derived.Test.Qxb6605676aMaps3
namespace Go.Proofs.Qxb6605676a.En
set_option linter.unusedVariables false
set_option linter.unusedSimpArgs false
open Go.RowKit Go.Proofs.Qxb6605676a.Mp Go.Proofs.Qxb6605676a.Tm
open Go.ChangeMaps (setBlock heap_setBlock_same)

/-- Blocks laid one behind the other. -/
def allocs (w : World) (os : List Obj) : World := os.foldl World.alloc w

theorem allocs_heap (os : List Obj) : ∀ w : World, (allocs w os).heap = w.heap ++ os.toArray := by
  induction os with
  | nil => intro w; simp [allocs]
  | cons o os ih =>
    intro w
    show (allocs (w.alloc o) os).heap = _
    rw [ih]
    show w.heap.push o ++ os.toArray = _
    apply Array.ext'
    simp

theorem allocs_below (os : List Obj) : ∀ w : World, Below w.heap.size w (allocs w os) := by
  induction os with
  | nil => intro w; exact Below.refl _ _
  | cons o os ih => intro w; exact ((Below.refl _ _).alloc (Nat.le_refl _) o).trans ((ih (w.alloc o)).mono (by simp))

theorem allocs_get (w : World) (os : List Obj) (i : Nat) (h : i < os.length) : (allocs w os).heap[w.heap.size + i]? = os[i]? := by
  rw [allocs_heap, Array.getElem?_append_right (by omega)]
  simp

theorem allocs_size (w : World) (os : List Obj) : (allocs w os).heap.size = w.heap.size + os.length := by
  rw [allocs_heap]; simp

theorem map_made {K : Type} {enc : K → Value} {w : World} {b : Nat} (h : w.heap[b]? = some (.map #[] 0)) : MapIs w b enc [] := ⟨#[], 0, h, by simp, by simp, by simp⟩

set_option maxHeartbeats 400000 in
theorem zzengine_any (a : Option Addr) (n c : Nat) (r : Option Nat) (w : World) :
    Calls Try.prog 67 #[.slice a n c, .map r] w fun e w' => e = .returned (.pointer (some ⟨w.heap.size + 5, 0, none⟩)) ∧ Below w.heap.size w w' ∧ w'.heap.size = w.heap.size + 6 ∧
      w'.heap[w.heap.size + 5]? = some (.cells #[.slice a n c, .map r, .map (some w.heap.size), .map (some (w.heap.size + 1)), .map (some (w.heap.size + 2)), .map (some (w.heap.size + 3)), .map (some (w.heap.size + 4))] 120) ∧
      (∀ i, i < 5 → w'.heap[w.heap.size + i]? = some (.map #[] 0)) := by
  have hmm := @run_makeMap Try.prog
  go_enter Try.func67, Try.ntmps67
  go_wp2
  go_ret
  refine ⟨rfl, allocs_below [_, _, _, _, _, _] w, allocs_size w [_, _, _, _, _, _], allocs_get w [_, _, _, _, _, _] 5 (by simp), fun i hi => ?_⟩
  have e := allocs_get w [.map #[] 0, .map #[] 0, .map #[] 0, .map #[] 0, .map #[] 0, .cells #[.slice a n c, .map r, .map (some w.heap.size), .map (some (w.heap.size + 1)), .map (some (w.heap.size + 2)), .map (some (w.heap.size + 3)), .map (some (w.heap.size + 4))] 120] i (by simp; omega)
  refine Eq.trans e ?_
  rcases i with _ | _ | _ | _ | _ | i <;> first | rfl | omega

/-- A composite literal's one entry, laid into the map that was made the step before the last. -/
theorem ins_made (W : World) (o : Obj) (m : ByteArray) (v : Value) (b : Nat) (hb : b = W.heap.size) :
    (Instr.mapUpdate 113 (.map (some b)) (.string m) v).run Try.prog ((W.alloc (.map #[] 0)).alloc o) = .ok () ((W.alloc (.map #[{ key := .string m, val := v, born := 0 }] 1)).alloc o) := by
  subst hb
  have h1 : ((W.alloc (.map #[] 0)).alloc o).heap[W.heap.size]? = some (.map #[] 0) := by
    show ((W.heap.push _).push _)[W.heap.size]? = _
    rw [Array.getElem?_push, if_neg (by simp)]; simp
  have hf := keyTy9.find m [] [] ((W.alloc (.map #[] 0)).alloc o) rfl
  have hc := keyTy9.check false m ((W.alloc (.map #[] 0)).alloc o)
  have hw : setBlock ((W.alloc (.map #[] 0)).alloc o) W.heap.size (.map #[{ key := .string m, val := v, born := 0 }] 1) = (W.alloc (.map #[{ key := .string m, val := v, born := 0 }] 1)).alloc o := by
    show ({ W with heap := ((W.heap.push _).push _).setIfInBounds _ _ } : World) = { W with heap := (W.heap.push _).push _ }
    have hh : ∀ o1 o2 : Obj, ((W.heap.push o1).push o).setIfInBounds W.heap.size o2 = (W.heap.push o2).push o := by
      intro o1 o2
      apply Array.ext_getElem?
      intro i
      simp only [Array.getElem?_setIfInBounds, Array.getElem?_push, Array.size_push]
      by_cases h : W.heap.size = i
      · subst h; simp; omega
      · simp [h, Ne.symm h]
    rw [hh]
  simp only [sv, seek] at hf hc
  simp [Instr.mapUpdate, run_underlying Try.underlying113, MapKept.run_getObj_map h1, hc, hf, run_setObj_map h1, Result.andThen, hw]

/-- The engine at block mb + 5: its five maps at mb .. mb + 4, its rules at rb. -/
structure Eng (w : World) (mb rb nr : Nat) (rs : Array Value) (A C KB : List (Key × Value)) (LS SB : List ((ByteArray × ByteArray) × Value)) : Prop where
  low : rb < mb
  eng : ∃ r, w.heap[mb + 5]? = some (.cells #[.slice (some ⟨rb, 0, none⟩) nr nr, .map r, .map (some mb), .map (some (mb + 1)), .map (some (mb + 2)), .map (some (mb + 3)), .map (some (mb + 4))] 120)
  rul : w.heap[rb]? = some (.cells rs 124)
  alarms : MapIs w mb kv A
  last : MapIs w (mb + 1) pv LS
  cool : MapIs w (mb + 2) kv C
  keys : MapIs w (mb + 3) kv KB
  ser : MapIs w (mb + 4) pv SB

section
variable {w w' : World} {mb rb nr : Nat} {rs : Array Value} {A C KB : List (Key × Value)} {LS SB : List ((ByteArray × ByteArray) × Value)}

theorem Eng.kept (h : Eng w mb rb nr rs A C KB LS SB) (hk : ∀ k, rb ≤ k → k < mb + 6 → w'.heap[k]? = w.heap[k]?) : Eng w' mb rb nr rs A C KB LS SB := by
  have hl := h.low
  refine ⟨hl, ?_, ?_, h.alarms.of_block (hk _ (by omega) (by omega)), h.last.of_block (hk _ (by omega) (by omega)), h.cool.of_block (hk _ (by omega) (by omega)), h.keys.of_block (hk _ (by omega) (by omega)), h.ser.of_block (hk _ (by omega) (by omega))⟩
  · obtain ⟨r, hr⟩ := h.eng
    exact ⟨r, by rw [hk _ (by omega) (by omega)]; exact hr⟩
  · rw [hk _ (by omega) (by omega)]; exact h.rul

theorem Eng.lt (h : Eng w mb rb nr rs A C KB LS SB) : mb + 5 < w.heap.size := by
  obtain ⟨r, hr⟩ := h.eng
  exact (Array.getElem?_eq_some_iff.1 hr).1

theorem Eng.below (h : Eng w mb rb nr rs A C KB LS SB) (hb : Below w.heap.size w w') : Eng w' mb rb nr rs A C KB LS SB :=
  h.kept fun k _ hk => hb.block k (by have := h.lt; omega)

theorem Eng.cells (h : Eng w mb rb nr rs A C KB LS SB) : w.cell? ⟨mb + 5, 0, none⟩ = some (.slice (some ⟨rb, 0, none⟩) nr nr) ∧ w.cell? ⟨mb + 5, 2, none⟩ = some (.map (some mb)) ∧ w.cell? ⟨mb + 5, 3, none⟩ = some (.map (some (mb + 1))) ∧
    w.cell? ⟨mb + 5, 4, none⟩ = some (.map (some (mb + 2))) ∧ w.cell? ⟨mb + 5, 5, none⟩ = some (.map (some (mb + 3))) ∧ w.cell? ⟨mb + 5, 6, none⟩ = some (.map (some (mb + 4))) := by
  obtain ⟨r, hr⟩ := h.eng
  simp [World.cell?, hr]
end

set_option maxHeartbeats 400000 in
set_option maxRecDepth 10000 in
theorem zzengine2_any (n m s0 s1 : ByteArray) (f : Int) (w : World) :
    Calls Try.prog 52 #[.string n, .string m, .string s0, .string s1, .int .i64 f] w fun e w' => e = .returned (.pointer (some ⟨w.heap.size + 9, 0, none⟩)) ∧ Below w.heap.size w w' ∧
      Eng w' (w.heap.size + 4) (w.heap.size + 1) 1 #[.string n, .string m, .slice (some ⟨w.heap.size, 0, none⟩) 2 2, .int .i64 f, .int .i64 0, .int .i64 0] [] [] [] [] [] ∧
      w'.heap[w.heap.size]? = some (.cells #[.string s0, .string ⟨#[]⟩, .float .f64 0, .float .f64 0, .string s1, .string ⟨#[]⟩, .float .f64 0, .float .f64 0] 131) := by
  have hmm := @run_makeMap Try.prog
  have hins := ins_made
  go_enter Try.func52, Try.ntmps52
  go_wp2_with (go_at_call 67; refine (zzengine_any _ _ _ _ _).mono ?_; rintro e w1 ⟨rfl, hb, hz, he, hm⟩)
  go_ret
  have hb' : Below w.heap.size w w1 := (allocs_below [_, _, _, _] w).trans (hb.mono (by simp; omega))
  have zz : (((((w.alloc
    (Obj.cells #[Value.string s0, Value.string { data := #[] }, Value.float FloatKind.f64 0, Value.float FloatKind.f64 0, Value.string s1, Value.string { data := #[] }, Value.float FloatKind.f64 0, Value.float FloatKind.f64 0] 131)).alloc
    (Obj.cells #[Value.string n, Value.string m, Value.slice (some { block := w.heap.size, off := 0 }) 2 2, Value.int IntKind.i64 f, Value.int IntKind.i64 0, Value.int IntKind.i64 0] 124)).alloc
    (Obj.map #[{ key := Value.string m, val := Value.slice (some { block := w.heap.size + 1 + 1 + 1, off := 0 }) 1 1, born := 0 }] 1)).alloc (Obj.cells #[Value.int IntKind.i64 0] 3)).heap.size) = w.heap.size + 4 := by simp
  rw [zz] at hm he hb hz
  refine ⟨rfl, hb', ⟨by omega, ⟨_, he⟩, ?_, map_made (hm 0 (by omega)), map_made (hm 1 (by omega)), map_made (hm 2 (by omega)), map_made (hm 3 (by omega)), map_made (hm 4 (by omega))⟩, ?_⟩
  · rw [hb.block _ (by omega)]; exact allocs_get w [_, _, _, _] 1 (by simp)
  · rw [hb.block _ (by omega)]; exact allocs_get w [_, _, _, _] 0 (by simp)
end Go.Proofs.Qxb6605676a.En
