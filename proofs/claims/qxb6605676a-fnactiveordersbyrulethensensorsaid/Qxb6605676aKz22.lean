import Derived.Test.Qxb6605676aKz20
namespace Go.Proofs.Qxb6605676a.Kz
set_option linter.unusedVariables false
set_option linter.unusedSimpArgs false
open Go.RowKit Go.Proofs.Qxb6605676a.Mp Go.Proofs.Qxb6605676a.Tm Go.Proofs.Qxb6605676a.En

/-! ### what the second loop of Restore keeps -/
def alCells (q : ZK) : Array Value := #[.string q.state, .int .u64 (q.since % 1000000000), .int .i64 (q.since / 1000000000), .pointer none, .int .u64 (q.lts % 1000000000), .int .i64 (q.lts / 1000000000), .pointer none, .string q.sensor, .string q.metric, .float .f64 q.val, .bool q.cl, .int .u64 (q.cs % 1000000000), .int .i64 (q.cs / 1000000000), .pointer none]
def rdv (q : ZK) : Value := .agg #[.int .u64 (q.lts % 1000000000), .int .i64 (q.lts / 1000000000), .pointer none, .string q.sensor, .string q.metric, .float .f64 q.val]
def alMap (R : List RuleD) (xs : List (ZK × Nat)) : List (Key × Value) := (gmap Key.same (fun x => keyA R x.1) xs).map fun p => (p.1, .pointer (some ⟨p.2.2, 0, none⟩))
def coMap (R : List RuleD) (K : List ZK) : List (Key × Value) := (gmap Key.same (keyC R) K).map fun p => (p.1, T p.2.cool)
def lrMap (K : List ZK) : List ((ByteArray × ByteArray) × Value) := (gmap sameP keyL K).map fun p => (p.1, rdv p.2)

structure Rel2 (mb rb pb lr bx base kb sb tb : Nat) (rs : Array Value) (R : List RuleD) (K : List ZK) (S : List ZS) (T' : List ZR) (k : Nat) (wr : World) (l : Value) : Prop where
  eng : ∃ ptrs : List Nat, ptrs.length = k ∧ Eng wr mb rb R.length rs (alMap R ((K.take k).zip ptrs)) (coMap R (K.take k)) [] [] [] ∧ ∀ (j : Nat) (q : ZK) (ab : Nat), (K.take k)[j]? = some q → ptrs[j]? = some ab → (keyA R q).isSome = true → wr.heap[ab]? = some (Obj.cells (alCells q) 136)
  rules : RulesIn wr base rb R
  places : MapIs wr pb sv (plcs R 0 [])
  lrs : MapIs wr lr pv (lrMap (K.take k))
  left : wr.ownsRow base 107 21 l (unmL R (K.take k)).length ((unmL R (K.take k)).flatMap lfCells)
  rows : RowsAt wr kb 21 ksCells K
  srow : RowsAt wr sb 5 ssCells S
  trow : RowsAt wr tb 13 tnCells T'
  bx1 : wr.cell? ⟨bx, 1, none⟩ = some (.slice (some ⟨sb, 0, none⟩) S.length S.length)
  bx2 : wr.cell? ⟨bx, 2, none⟩ = some (.slice (some ⟨tb, 0, none⟩) T'.length T'.length)
  hbase : base ≤ wr.heap.size
  low : mb + 5 < base ∧ pb < base ∧ lr < base ∧ bx < base ∧ kb < base ∧ sb < base ∧ tb < base ∧ rb < base

theorem MapIs.lt {κ : Type} {w : World} {b : Nat} {enc : κ → Value} {L : List (κ × Value)} (h : MapIs w b enc L) : b < w.heap.size := by
  obtain ⟨es, clock, h1, _⟩ := h
  exact (Array.getElem?_eq_some_iff.1 h1).1
theorem MapIs.below {κ : Type} {w w' : World} {b : Nat} {enc : κ → Value} {L : List (κ × Value)} (h : MapIs w b enc L) (hb : Below w.heap.size w w') : MapIs w' b enc L :=
  h.of_block (hb.block b (MapIs.lt h))
theorem grown_of_below {w w' : World} (hb : Below w.heap.size w w') : w.grownBy w' none := ⟨hb.os, hb.tape, hb.output, hb.size, fun k hk _ => hb.block k hk⟩
theorem owns_below {w w' : World} {base e size : Nat} {v : Value} {n : Nat} {xs : List Value} (h : w.ownsRow base e size v n xs) (hb : Below w.heap.size w w') : w'.ownsRow base e size v n xs :=
  h.kept (grown_of_below hb) (by cases v.ownBlock <;> simp)

/-- New blocks alone turn nothing of it. -/
theorem Rel2.below {mb rb pb lr bx base kb sb tb : Nat} {rs : Array Value} {R : List RuleD} {K : List ZK} {S : List ZS} {T' : List ZR} {k : Nat} {wr wr' : World} {l : Value} (h : Rel2 mb rb pb lr bx base kb sb tb rs R K S T' k wr l) (hb : Below wr.heap.size wr wr') : Rel2 mb rb pb lr bx base kb sb tb rs R K S T' k wr' l where
  eng := by
    obtain ⟨ptrs, h1, h2, h3⟩ := h.eng
    refine ⟨ptrs, h1, h2.below hb, fun j q ab hq hp hk => ?_⟩
    have := h3 j q ab hq hp hk
    rw [hb.block ab (Array.getElem?_eq_some_iff.1 this).1]
    exact this
  rules := h.rules.below hb
  places := MapIs.below h.places hb
  lrs := MapIs.below h.lrs hb
  left := owns_below h.left hb
  rows := h.rows.below hb
  srow := h.srow.below hb
  trow := h.trow.below hb
  bx1 := by rw [hb.cell (World.block_lt_of_cell? wr _ h.bx1)]; exact h.bx1
  bx2 := by rw [hb.cell (World.block_lt_of_cell? wr _ h.bx2)]; exact h.bx2
  hbase := Nat.le_trans h.hbase hb.size
  low := h.low

/-- One more key that is left (its state OK): the row left has grown by it, rows of key states from 'base' on and new blocks alone have turned. -/
theorem Rel2.leave {mb rb pb lr bx base kb sb tb : Nat} {rs : Array Value} {R : List RuleD} {K : List ZK} {S : List ZS} {T' : List ZR} {k : Nat} {wr w2 : World} {l l' : Value} (h : Rel2 mb rb pb lr bx base kb sb tb rs R K S T' k wr l) (hk : k < K.length)
    (hu : unm R K[k] = true) (hok : (K[k].state.toList == okB.toList) = true) (hg : wr.grownBy w2 l.ownBlock) (ho : w2.ownsRow base 107 21 l' ((unmL R (K.take k)).length + 1) ((unmL R (K.take k)).flatMap lfCells ++ lfCells K[k])) :
    Rel2 mb rb pb lr bx base kb sb tb rs R K S T' (k + 1) w2 l' := by
  have hb : Below base wr w2 := (Below.refl base wr).grown hg h.hbase (fun j hj => (h.left.lt j hj).1)
  have hlt0 : (mtc R K[k].rule K[k].metric K[k].sev).1 < 0 := by simpa [unm] using hu
  have ht : K.take (k + 1) = K.take k ++ [K[k]] := List.take_succ_eq_append_getElem hk
  have hA : keyA R K[k] = none := by unfold keyA; rw [if_pos hok]
  have hC : keyC R K[k] = none := by
    unfold keyC
    split
    · rfl
    · first | rfl | rw [if_pos hlt0]
  have hL : keyL K[k] = none := by unfold keyL; rw [if_pos hok]
  obtain ⟨l1, l2, l3, l4, l5, l6, l7, l8⟩ := h.low
  have hul : unmL R (K.take (k + 1)) = unmL R (K.take k) ++ [K[k]] := by
    rw [ht]; unfold unmL; rw [List.filter_append, List.filter_cons, if_pos hu]; rfl
  refine ⟨?_, h.rules.belowB hb l8, h.places.of_block (hb.block _ l2), ?_, ?_, h.rows.belowB hb l5, h.srow.belowB hb l6, h.trow.belowB hb l7, by rw [hb.cell l4]; exact h.bx1, by rw [hb.cell l4]; exact h.bx2, Nat.le_trans h.hbase hb.size, h.low⟩
  · obtain ⟨ptrs, h1, h2, h3⟩ := h.eng
    refine ⟨ptrs ++ [0], by simp [h1], ?_, ?_⟩
    · have e1 : (K.take (k + 1)).zip (ptrs ++ [0]) = (K.take k).zip ptrs ++ [(K[k], 0)] := by
        rw [ht, List.zip_append (by rw [h1]; simp; omega)]; rfl
      have e2 : alMap R ((K.take (k + 1)).zip (ptrs ++ [0])) = alMap R ((K.take k).zip ptrs) := by
        unfold alMap; rw [e1, gmap_snoc]; unfold gstep; simp only [hA]
      have e3 : coMap R (K.take (k + 1)) = coMap R (K.take k) := by
        unfold coMap; rw [ht, gmap_snoc]; unfold gstep; simp only [hC]
      rw [e2, e3]
      exact h2.kept (fun j _ hj => hb.block j (by omega))
    · intro j q ab hq hp hka
      have hjk : j < k := by
        have hj1 : j < (K.take (k + 1)).length := (List.getElem?_eq_some_iff.1 hq).1
        rcases Nat.lt_or_ge j k with h | h
        · exact h
        · exfalso
          have : j = k := by simp at hj1; omega
          subst this
          rw [List.getElem?_take_of_lt (by omega), List.getElem?_eq_getElem hk] at hq
          obtain rfl := Option.some.inj hq
          rw [hA] at hka
          simp at hka
      rw [List.getElem?_take_of_lt (by omega)] at hq
      have hold := h3 j q ab (by rw [List.getElem?_take_of_lt hjk]; exact hq) (by rw [List.getElem?_append_left (by omega)] at hp; exact hp) hka
      rw [hg.block ab (Array.getElem?_eq_some_iff.1 hold).1 ?_]
      · exact hold
      · intro e
        rcases h.left.2 with ⟨rfl, _⟩ | ⟨g, cap, cur, rfl, _, hgb, _⟩
        · simp [Value.ownBlock] at e
        · simp only [Value.ownBlock] at e
          have e' : ab = g := Option.some.inj e
          subst e'
          rw [hgb] at hold
          simp at hold
  · have e : lrMap (K.take (k + 1)) = lrMap (K.take k) := by
      unfold lrMap; rw [ht, gmap_snoc]; unfold gstep; simp only [hL]
    rw [e]
    exact h.lrs.of_block (hb.block _ l3)
  · rw [hul, List.length_append, List.flatMap_append]
    simpa using ho
end Go.Proofs.Qxb6605676a.Kz
