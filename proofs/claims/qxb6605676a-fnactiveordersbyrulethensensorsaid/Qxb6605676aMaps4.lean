import Derived.Test.Qxb6605676aMaps3
namespace Go.Proofs.Qxb6605676a.Mp
set_option linter.unusedVariables false
set_option linter.unusedSimpArgs false
open Go.RowKit
open Go.ChangeMaps (setBlock heap_setBlock_same)

section
variable {K : Type} {kt : TypeId} {enc : K → Value} {same : K → K → Bool}

/-- A map's entries, apart from any world. -/
def EntriesAre (es : Array MapEntry) (clock : Nat) (enc : K → Value) (L : List (K × Value)) : Prop :=
  es.toList.map (fun e => (e.key, e.val)) = L.map (fun p => (enc p.1, p.2)) ∧ (es.toList.map (·.born)).Pairwise (· < ·) ∧ ∀ e ∈ es.toList, e.born < clock

theorem MapIs.entries {w : World} {b : Nat} {L : List (K × Value)} (h : MapIs w b enc L) : ∃ es clock, w.heap[b]? = some (.map es clock) ∧ EntriesAre es clock enc L := h
theorem EntriesAre.at {w : World} {b : Nat} {es : Array MapEntry} {clock : Nat} {L : List (K × Value)} (h : EntriesAre es clock enc L) (hb : w.heap[b]? = some (.map es clock)) : MapIs w b enc L := ⟨es, clock, hb, h⟩

theorem EntriesAre.store {es : Array MapEntry} {clock : Nat} {L : List (K × Value)} (h : EntriesAre es clock enc L) (KT : KeyTy kt enc same) {mt et : TypeId} (ht : Try.prog.underlying mt = some (.map kt et)) (x : K) (v : Value) :
    ∃ es' clock', EntriesAre es' clock' enc (put same x v L) ∧ ∀ (W : World) (b : Nat), W.heap[b]? = some (.map es clock) → (Instr.mapUpdate mt (.map (some b)) (enc x) v).run Try.prog W = .ok () (setBlock W b (.map es' clock')) := by
  obtain ⟨h2, h3, h4⟩ := h
  have hf := fun W => KT.find x L es.toList W h2
  cases hs : seek same x L 0 with
  | none =>
    simp only [hs] at hf
    obtain ⟨_, hp, _, _⟩ := seek_none x L 0 hs
    refine ⟨es.push { key := enc x, val := v, born := clock }, clock + 1, ?_, ?_⟩
    rotate_left
    · intro W b h1
      simp [Instr.mapUpdate, run_underlying ht, MapKept.run_getObj_map h1, KT.check, hf, run_setObj_map h1, Result.andThen]
    · refine ⟨?_, ?_, ?_⟩
      · rw [hp]; simp [h2]
      · simp only [Array.toList_push, List.map_append, List.pairwise_append]
        refine ⟨h3, by simp, ?_⟩
        intro a ha c hc
        simp at ha hc
        obtain ⟨e, he, rfl⟩ := ha
        subst hc
        exact h4 e (by simpa using he)
      · intro e he
        simp at he
        rcases he with he | rfl
        · have := h4 e (by simpa using he); omega
        · simp
  | some q =>
    obtain ⟨j, v0⟩ := q
    simp only [hs] at hf
    obtain ⟨k, y, hj, hk, hxy, hg, hp, _⟩ := seek_some x L 0 j v0 hs
    simp at hj
    subst hj
    have hy : x = y := (KT.iff x y).1 hxy
    subst hy
    have hkey : es[j]?.map (fun e => (e.key, e.val)) = some (enc x, v0) := by
      have := congrArg (fun l => l[j]?) h2
      simp [hk] at this
      simpa using this
    obtain ⟨e0, he0, hee⟩ := Option.map_eq_some_iff.1 hkey
    simp at hee
    have hborn : (es.modify j fun e => { e with key := enc x, val := v }).toList.map (·.born) = es.toList.map (·.born) := by
      apply List.ext_getElem?
      intro i
      simp only [List.getElem?_map, Array.getElem?_toList, Array.getElem?_modify]
      by_cases hij : j = i
      · subst hij; simp [he0]
      · simp only [if_neg hij]
    refine ⟨es.modify j fun e => { e with key := enc x, val := v }, clock, ?_, ?_⟩
    rotate_left
    · intro W b h1
      simp [Instr.mapUpdate, run_underlying ht, MapKept.run_getObj_map h1, KT.check, hf, he0, hee.1, Instr.keyThatStays, KT.bits, run_setObj_map h1, Result.andThen]
    · refine ⟨?_, ?_, ?_⟩
      · rw [hp]
        apply List.ext_getElem?
        intro i
        have hi := congrArg (fun l => l[i]?) h2
        simp only [List.getElem?_map, Array.getElem?_toList] at hi
        simp only [List.getElem?_map, Array.getElem?_toList, Array.getElem?_modify, List.getElem?_set]
        by_cases hij : j = i
        · subst hij
          have hlt : j < L.length := (List.getElem?_eq_some_iff.1 hk).1
          simp [he0, hlt]
        · simp only [if_neg hij]
          exact hi
      · rw [hborn]; exact h3
      · intro e he
        have hm : e.born ∈ (es.modify j fun e => { e with key := enc x, val := v }).toList.map (·.born) := List.mem_map.2 ⟨e, he, rfl⟩
        rw [hborn] at hm
        obtain ⟨e', he', hb'⟩ := List.mem_map.1 hm
        rw [← hb']; exact h4 e' he'


theorem setBlock_get {w : World} {b : Nat} {es : Array MapEntry} {clock : Nat} (h : w.heap[b]? = some (.map es clock)) (o : Obj) : (setBlock w b o).heap[b]? = some o := heap_setBlock_same h o
end
end Go.Proofs.Qxb6605676a.Mp
