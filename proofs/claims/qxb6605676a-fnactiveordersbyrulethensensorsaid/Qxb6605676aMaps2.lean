import Derived.Test.Qxb6605676aMaps
namespace Go.Proofs.Qxb6605676a.Mp
set_option linter.unusedVariables false
set_option linter.unusedSimpArgs false
open Go.RowKit
open Go.ChangeMaps (setBlock heap_setBlock_same)

section
variable {K : Type} {kt : TypeId} {enc : K → Value} {same : K → K → Bool}

theorem seek_some (x : K) : ∀ (L : List (K × Value)) (i j : Nat) (v : Value), seek same x L i = some (j, v) → ∃ k y, j = i + k ∧ L[k]? = some (y, v) ∧ same x y = true ∧ get same x L = some v ∧ (∀ v', put same x v' L = L.set k (x, v')) ∧ del same x L = L.eraseIdx k
  | [], i, j, v, h => by simp [seek] at h
  | p :: r, i, j, v, h => by
    simp only [seek] at h
    by_cases hs : same x p.1 = true
    · simp [hs] at h
      obtain ⟨rfl, rfl⟩ := h
      exact ⟨0, p.1, rfl, by simp, hs, by simp [get, hs], fun v' => by simp [put, hs], by simp [del, hs]⟩
    · simp [hs] at h
      obtain ⟨k, y, rfl, h2, h3, h4, h5, h6⟩ := seek_some x r (i + 1) j v h
      exact ⟨k + 1, y, by omega, by simpa using h2, h3, by simp [get, hs, h4], fun v' => by simp [put, hs, h5], by simp [del, hs, h6]⟩

theorem seek_none (x : K) : ∀ (L : List (K × Value)) (i : Nat), seek same x L i = none → get same x L = none ∧ (∀ v', put same x v' L = L ++ [(x, v')]) ∧ del same x L = L ∧ ∀ p ∈ L, same x p.1 = false
  | [], i, h => ⟨rfl, fun _ => rfl, rfl, by simp⟩
  | p :: r, i, h => by
    simp only [seek] at h
    by_cases hs : same x p.1 = true
    · simp [hs] at h
    · simp [hs] at h
      obtain ⟨h1, h2, h3, h4⟩ := seek_none x r (i + 1) h
      exact ⟨by simp [get, hs, h1], fun v' => by simp [put, hs, h2], by simp [del, hs, h3], by
        intro q hq
        rcases List.mem_cons.1 hq with rfl | hq
        · simpa using hs
        · exact h4 q hq⟩

/-- Block b is a map that holds just the entries L. -/
def MapIs (w : World) (b : Nat) (enc : K → Value) (L : List (K × Value)) : Prop :=
  ∃ es clock, w.heap[b]? = some (.map es clock) ∧ es.toList.map (fun e => (e.key, e.val)) = L.map (fun p => (enc p.1, p.2)) ∧ (es.toList.map (·.born)).Pairwise (· < ·) ∧ ∀ e ∈ es.toList, e.born < clock

theorem MapIs.made (w : World) (enc : K → Value) : MapIs (w.alloc (.map #[] 0)) w.heap.size enc [] :=
  ⟨#[], 0, by show (w.heap.push _)[w.heap.size]? = _; simp, by simp, by simp, by simp⟩

theorem MapIs.of_block {w w' : World} {b : Nat} {L : List (K × Value)} (h : MapIs w b enc L) (hb : w'.heap[b]? = w.heap[b]?) : MapIs w' b enc L := by
  obtain ⟨es, clock, h1, h2⟩ := h
  exact ⟨es, clock, by rw [hb, h1], h2⟩

theorem MapIs.lt {w : World} {b : Nat} {L : List (K × Value)} (h : MapIs w b enc L) : b < w.heap.size := by
  obtain ⟨es, clock, h1, h2⟩ := h
  exact (Array.getElem?_eq_some_iff.1 h1).1

theorem MapIs.look {w : World} {b : Nat} {L : List (K × Value)} (h : MapIs w b enc L) (KT : KeyTy kt enc same) {mt et : TypeId} (ht : Try.prog.underlying mt = some (.map kt et)) {z : Value} (hz : ∀ w, (zeroValue et).run Try.prog w = .ok z w) (x : K) (c : Bool) :
    (Instr.lookup mt (.map (some b)) (enc x) c).run Try.prog w = .ok (if c then .tuple #[(get same x L).getD z, .bool (get same x L).isSome] else (get same x L).getD z) w := by
  obtain ⟨es, clock, h1, h2, _⟩ := h
  have hf := KT.find x L es.toList w h2
  cases hs : seek same x L 0 with
  | none =>
    rw [hs] at hf
    have hg := (seek_none x L 0 hs).1
    simp [Instr.lookup, run_underlying ht, MapKept.run_getObj_map h1, KT.check, hf, hz, hg, Result.andThen]
  | some q =>
    obtain ⟨j, v⟩ := q
    rw [hs] at hf
    obtain ⟨k, y, _, _, _, hg, _⟩ := seek_some x L 0 j v hs
    simp [Instr.lookup, run_underlying ht, MapKept.run_getObj_map h1, KT.check, hf, hg, Result.andThen]

theorem MapIs.len {w : World} {b : Nat} {L : List (K × Value)} (h : MapIs w b enc L) {mt kt et : TypeId} (ht : Try.prog.underlying mt = some (.map kt et)) (ty : TypeId) :
    (Builtin.len_ #[mt] ty #[.map (some b)]).run Try.prog w = .ok (.int .i64 L.length) w := by
  obtain ⟨es, clock, h1, h2, _⟩ := h
  have e : es.size = L.length := by
    have := congrArg List.length h2
    simpa using this
  simp [Builtin.len_, run_underlying ht, MapKept.run_getObj_map h1, goInt, Result.andThen, e]

theorem run_setObj_map {w : World} {b : Nat} {es : Array MapEntry} {clock : Nat} (h : w.heap[b]? = some (.map es clock)) (o : Obj) : (setObj b o).run Try.prog w = .ok () (setBlock w b o) := by
  simp [setObj, Sem.run, h, setBlock]

theorem MapIs.store {w : World} {b : Nat} {L : List (K × Value)} (h : MapIs w b enc L) (KT : KeyTy kt enc same) {mt et : TypeId} (ht : Try.prog.underlying mt = some (.map kt et)) (x : K) (v : Value) :
    ∃ o, (Instr.mapUpdate mt (.map (some b)) (enc x) v).run Try.prog w = .ok () (setBlock w b o) ∧ MapIs (setBlock w b o) b enc (put same x v L) := by
  obtain ⟨es, clock, h1, h2, h3, h4⟩ := h
  have hf := KT.find x L es.toList w h2
  cases hs : seek same x L 0 with
  | none =>
    rw [hs] at hf
    obtain ⟨_, hp, _, _⟩ := seek_none x L 0 hs
    refine ⟨.map (es.push { key := enc x, val := v, born := clock }) (clock + 1), ?_, ?_⟩
    · simp [Instr.mapUpdate, run_underlying ht, MapKept.run_getObj_map h1, KT.check, hf, run_setObj_map h1, Result.andThen]
    · refine ⟨_, _, heap_setBlock_same h1 _, ?_, ?_, ?_⟩
      · rw [hp]; simp [h2]
      · simp only [Array.toList_push, List.map_append, List.pairwise_append]
        refine ⟨h3, by simp, ?_⟩
        intro a ha c hc
        simp at ha hc
        obtain ⟨e, he, rfl⟩ := ha
        subst hc
        exact h4 e (by simpa using he)
      · intro e he
        simp at he
        rcases he with he | rfl
        · have := h4 e (by simpa using he); omega
        · simp
  | some q =>
    obtain ⟨j, v0⟩ := q
    rw [hs] at hf
    obtain ⟨k, y, hj, hk, hxy, hg, hp, _⟩ := seek_some x L 0 j v0 hs
    simp at hj
    subst hj
    have hy : x = y := (KT.iff x y).1 hxy
    subst hy
    have hkey : es[j]?.map (fun e => (e.key, e.val)) = some (enc x, v0) := by
      have := congrArg (fun l => l[j]?) h2
      simp [hk] at this
      simpa using this
    obtain ⟨e0, he0, hee⟩ := Option.map_eq_some_iff.1 hkey
    simp at hee
    have hborn : (es.modify j fun e => { e with key := enc x, val := v }).toList.map (·.born) = es.toList.map (·.born) := by
      apply List.ext_getElem?
      intro i
      simp only [List.getElem?_map, Array.getElem?_toList, Array.getElem?_modify]
      by_cases hij : j = i
      · subst hij; simp [he0]
      · simp only [if_neg hij]
    refine ⟨.map (es.modify j fun e => { e with key := enc x, val := v }) clock, ?_, ?_⟩
    · simp [Instr.mapUpdate, run_underlying ht, MapKept.run_getObj_map h1, KT.check, hf, he0, hee.1, Instr.keyThatStays, KT.bits, run_setObj_map h1, Result.andThen]
    · refine ⟨_, _, heap_setBlock_same h1 _, ?_, ?_, ?_⟩
      · rw [hp]
        apply List.ext_getElem?
        intro i
        have hi := congrArg (fun l => l[i]?) h2
        simp only [List.getElem?_map, Array.getElem?_toList] at hi
        simp only [List.getElem?_map, Array.getElem?_toList, Array.getElem?_modify, List.getElem?_set]
        by_cases hij : j = i
        · subst hij
          have hlt : j < L.length := (List.getElem?_eq_some_iff.1 hk).1
          simp [he0, hlt]
        · simp only [if_neg hij]
          exact hi
      · rw [hborn]; exact h3
      · intro e he
        have hm : e.born ∈ (es.modify j fun e => { e with key := enc x, val := v }).toList.map (·.born) := List.mem_map.2 ⟨e, he, rfl⟩
        rw [hborn] at hm
        obtain ⟨e', he', hb'⟩ := List.mem_map.1 hm
        rw [← hb']; exact h4 e' he'

theorem MapIs.drop {w : World} {b : Nat} {L : List (K × Value)} (h : MapIs w b enc L) (KT : KeyTy kt enc same) {mt et : TypeId} (ht : Try.prog.underlying mt = some (.map kt et)) (x : K) (ty : TypeId) :
    ∃ o, (Builtin.delete_ #[mt, kt] ty #[.map (some b), enc x]).run Try.prog w = .ok (.tuple #[]) (setBlock w b o) ∧ MapIs (setBlock w b o) b enc (del same x L) := by
  obtain ⟨es, clock, h1, h2, h3, h4⟩ := h
  have hf := KT.find x L es.toList w h2
  cases hs : seek same x L 0 with
  | none =>
    rw [hs] at hf
    obtain ⟨_, _, hp, _⟩ := seek_none x L 0 hs
    refine ⟨.map es clock, ?_, ?_⟩
    · simp [Builtin.delete_, run_underlying ht, MapKept.run_getObj_map h1, KT.check, hf, run_setObj_map h1, Result.andThen]
    · exact ⟨_, _, heap_setBlock_same h1 _, by rw [hp]; exact h2, h3, h4⟩
  | some q =>
    obtain ⟨j, v0⟩ := q
    rw [hs] at hf
    obtain ⟨k, y, hj, hk, hxy, hg, _, hp⟩ := seek_some x L 0 j v0 hs
    simp at hj
    subst hj
    refine ⟨.map (es.eraseIdxIfInBounds j) clock, ?_, ?_⟩
    · simp [Builtin.delete_, run_underlying ht, MapKept.run_getObj_map h1, KT.check, hf, run_setObj_map h1, Result.andThen]
    · have he : (es.eraseIdxIfInBounds j).toList = es.toList.eraseIdx j := by simp
      refine ⟨_, _, heap_setBlock_same h1 _, ?_, ?_, ?_⟩
      · rw [hp, he, ChangeMaps.map_eraseIdx, ChangeMaps.map_eraseIdx, h2]
      · rw [he, ChangeMaps.map_eraseIdx]; exact h3.sublist (List.eraseIdx_sublist _ _)
      · intro e hm
        rw [he] at hm
        exact h4 e ((List.eraseIdx_sublist _ _).subset hm)


theorem setBlock_cell {w : World} {b : Nat} {L : List (K × Value)} (h : MapIs w b enc L) (o : Obj) {enc' : K → Value} {L' : List (K × Value)} (h' : MapIs (setBlock w b o) b enc' L') (a : Addr) : (setBlock w b o).cell? a = w.cell? a := by
  obtain ⟨es, clock, h1, _⟩ := h
  obtain ⟨es', clock', h1', _⟩ := h'
  by_cases e : a.block = b
  · unfold World.cell?; rw [e, h1, h1']
  · apply World.cell?_of_block
    show (w.heap.setIfInBounds b o)[a.block]? = _
    rw [Array.getElem?_setIfInBounds_ne (by omega)]

theorem setBlock_grown (w : World) (b : Nat) (o : Obj) : w.grownBy (setBlock w b o) (some b) :=
  ⟨rfl, rfl, rfl, by simp [setBlock], fun k _ hk => by
    show (w.heap.setIfInBounds b o)[k]? = _
    rw [Array.getElem?_setIfInBounds_ne (fun e => hk (by rw [e]))]⟩

end
end Go.Proofs.Qxb6605676a.Mp
