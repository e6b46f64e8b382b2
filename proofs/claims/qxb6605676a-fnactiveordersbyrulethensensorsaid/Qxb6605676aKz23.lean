import Derived.Test.Qxb6605676aKz22
namespace Go.Proofs.Qxb6605676a.Kz
set_option linter.unusedVariables false
set_option linter.unusedSimpArgs false
open Go.RowKit Go.Proofs.Qxb6605676a.Mp Go.Proofs.Qxb6605676a.Tm Go.Proofs.Qxb6605676a.En
open Go.ChangeMaps (setBlock heap_setBlock_same)

/-! What the loops of Restore keep, the four lists by themselves: XA (the alarms, each with the block that was made for it), XC (the cooldowns), XL (the last readings), U (the keys left), XS (the series), w0 the world of old. -/
/-- The map of the series' last times. -/
def keyS (q : ZS) : Option (ByteArray × ByteArray) := some (q.sensor, q.metric)
def lsMap (S : List ZS) : List ((ByteArray × ByteArray) × Value) := (gmap sameP keyS S).map fun p => (p.1, T p.2.last)

structure Rel3 (w0 : World) (sa ta : Option Addr) (mb rb pb lr bx base kb sb tb : Nat) (rs : Array Value) (R : List RuleD) (K : List ZK) (S : List ZS) (T' : List ZR) (XS : List ZS) (XA : List (ZK × Nat)) (XC XL U : List ZK) (wr : World) (l : Value) : Prop where
  eng : Eng wr mb rb R.length rs (alMap R XA) (coMap R XC) [] (lsMap XS) []
  ptr : ∀ q ab, (q, ab) ∈ XA → (keyA R q).isSome = true → wr.heap[ab]? = some (Obj.cells (alCells q) 136)
  rules : RulesIn wr base rb R
  places : MapIs wr pb sv (plcs R 0 [])
  lrs : MapIs wr lr pv (lrMap XL)
  left : wr.ownsRow base 107 21 l U.length (U.flatMap lfCells)
  rows : RowsAt wr kb 21 ksCells K
  srow : RowsAt wr sb 5 ssCells S
  trow : RowsAt wr tb 13 tnCells T'
  bx1 : wr.cell? ⟨bx, 1, none⟩ = some (.slice sa S.length S.length)
  bx2 : wr.cell? ⟨bx, 2, none⟩ = some (.slice ta T'.length T'.length)
  hbase : base ≤ wr.heap.size
  low : mb + 5 < base ∧ pb < base ∧ lr < base ∧ bx < base ∧ kb < base ∧ sb < base ∧ tb < base ∧ rb < base
  frame : Below mb w0 wr

section
variable {mb rb pb lr bx base kb sb tb : Nat} {rs : Array Value} {R : List RuleD} {K : List ZK} {S : List ZS} {T' : List ZR} {XS : List ZS} {w0 : World} {sa ta : Option Addr} {XA : List (ZK × Nat)} {XC XL U : List ZK} {wr w2 : World} {l l' : Value}

theorem Rel3.below (h : Rel3 w0 sa ta mb rb pb lr bx base kb sb tb rs R K S T' XS XA XC XL U wr l) (hb : Below wr.heap.size wr w2) : Rel3 w0 sa ta mb rb pb lr bx base kb sb tb rs R K S T' XS XA XC XL U w2 l where
  eng := h.eng.below hb
  ptr := fun q ab hq hk => by
    have := h.ptr q ab hq hk
    rw [hb.block ab (Array.getElem?_eq_some_iff.1 this).1]
    exact this
  rules := h.rules.below hb
  places := MapIs.below h.places hb
  lrs := MapIs.below h.lrs hb
  left := owns_below h.left hb
  rows := h.rows.below hb
  srow := h.srow.below hb
  trow := h.trow.below hb
  bx1 := by rw [hb.cell (World.block_lt_of_cell? wr _ h.bx1)]; exact h.bx1
  bx2 := by rw [hb.cell (World.block_lt_of_cell? wr _ h.bx2)]; exact h.bx2
  hbase := Nat.le_trans h.hbase hb.size
  low := h.low
  frame := h.frame.trans (hb.mono (by have := h.eng.lt; omega))

/-- A key with no entry in a map changes no map. -/
theorem Rel3.skipA (h : Rel3 w0 sa ta mb rb pb lr bx base kb sb tb rs R K S T' XS XA XC XL U wr l) (q : ZK) (hA : keyA R q = none) : Rel3 w0 sa ta mb rb pb lr bx base kb sb tb rs R K S T' XS (XA ++ [(q, 0)]) XC XL U wr l :=
  { h with
    eng := by
      have e : alMap R (XA ++ [(q, 0)]) = alMap R XA := by unfold alMap; rw [gmap_snoc]; unfold gstep; simp only [hA]
      rw [e]; exact h.eng
    ptr := fun q' ab hq hk => by
      rcases List.mem_append.1 hq with hq | hq
      · exact h.ptr q' ab hq hk
      · simp at hq
        obtain ⟨rfl, rfl⟩ := hq
        rw [hA] at hk
        simp at hk }
theorem Rel3.skipC (h : Rel3 w0 sa ta mb rb pb lr bx base kb sb tb rs R K S T' XS XA XC XL U wr l) (q : ZK) (hC : keyC R q = none) : Rel3 w0 sa ta mb rb pb lr bx base kb sb tb rs R K S T' XS XA (XC ++ [q]) XL U wr l :=
  { h with
    eng := by
      have e : coMap R (XC ++ [q]) = coMap R XC := by unfold coMap; rw [gmap_snoc]; unfold gstep; simp only [hC]
      rw [e]; exact h.eng }
theorem Rel3.skipL (h : Rel3 w0 sa ta mb rb pb lr bx base kb sb tb rs R K S T' XS XA XC XL U wr l) (q : ZK) (hL : keyL q = none) : Rel3 w0 sa ta mb rb pb lr bx base kb sb tb rs R K S T' XS XA XC (XL ++ [q]) U wr l :=
  { h with
    lrs := by
      have e : lrMap (XL ++ [q]) = lrMap XL := by unfold lrMap; rw [gmap_snoc]; unfold gstep; simp only [hL]
      rw [e]; exact h.lrs }

/-- One more key is left. -/
theorem Rel3.leave (h : Rel3 w0 sa ta mb rb pb lr bx base kb sb tb rs R K S T' XS XA XC XL U wr l) (q : ZK) (hg : wr.grownBy w2 l.ownBlock) (ho : w2.ownsRow base 107 21 l' (U.length + 1) (U.flatMap lfCells ++ lfCells q)) :
    Rel3 w0 sa ta mb rb pb lr bx base kb sb tb rs R K S T' XS XA XC XL (U ++ [q]) w2 l' := by
  have hb : Below base wr w2 := (Below.refl base wr).grown hg h.hbase (fun j hj => (h.left.lt j hj).1)
  obtain ⟨l1, l2, l3, l4, l5, l6, l7, l8⟩ := h.low
  refine ⟨h.eng.kept (fun j _ hj => hb.block j (by omega)), ?_, h.rules.belowB hb l8, h.places.of_block (hb.block _ l2), h.lrs.of_block (hb.block _ l3), ?_, h.rows.belowB hb l5, h.srow.belowB hb l6, h.trow.belowB hb l7, by rw [hb.cell l4]; exact h.bx1, by rw [hb.cell l4]; exact h.bx2, Nat.le_trans h.hbase hb.size, h.low, h.frame.trans (hb.mono (by omega))⟩
  · intro q' ab hq hk
    have hold := h.ptr q' ab hq hk
    rw [hg.block ab (Array.getElem?_eq_some_iff.1 hold).1 ?_]
    · exact hold
    · intro e
      rcases h.left.2 with ⟨rfl, _⟩ | ⟨g, cap, cur, rfl, _, hgb, _⟩
      · simp [Value.ownBlock] at e
      · simp only [Value.ownBlock] at e
        have e' : ab = g := Option.some.inj e
        subst e'
        rw [hgb] at hold
        simp at hold
  · rw [List.length_append, List.flatMap_append]
    simpa using ho

/-- A block that holds a map is no block of cells. -/
theorem map_ne {w : World} {b c : Nat} {κ : Type} {enc : κ → Value} {L : List (κ × Value)} {cur : Array Value} {t : TypeId} {fr : Nat × Nat} (h : MapIs w b enc L) (hc : w.heap[c]? = some (.cells cur t fr)) : c ≠ b := by
  intro e
  subst e
  obtain ⟨es, clock, h1, _⟩ := h
  rw [h1] at hc
  cases hc

theorem cell_turn {w w2 : World} {b : Nat} {κ : Type} {enc : κ → Value} {L : List (κ × Value)} (h : MapIs w b enc L) (hg : w.grownBy w2 (some b)) {a : Addr} {v : Value} (hc : w.cell? a = some v) : w2.cell? a = some v := by
  have hlt := World.block_lt_of_cell? w a hc
  have hne : a.block ≠ b := by
    intro e
    obtain ⟨es, clock, h1, _⟩ := h
    unfold World.cell? at hc
    rw [e, h1] at hc
    simp at hc
  rw [World.cell?_of_block (w := w) (hg.block a.block hlt (by simpa using hne))]
  exact hc

/-- The last reading of a key that is not OK is written. -/
theorem Rel3.putL (h : Rel3 w0 sa ta mb rb pb lr bx base kb sb tb rs R K S T' XS XA XC XL U wr l) (q : ZK) (k : ByteArray × ByteArray) (hL : keyL q = some k) (hne : mb + 5 < lr ∧ pb ≠ lr) (hg : wr.grownBy w2 (some lr)) (hm : MapIs w2 lr pv (put sameP k (rdv q) (lrMap XL))) :
    Rel3 w0 sa ta mb rb pb lr bx base kb sb tb rs R K S T' XS XA XC (XL ++ [q]) U w2 l := by
  have hc := fun {a : Addr} {v : Value} (hv : wr.cell? a = some v) => cell_turn h.lrs hg hv
  have hlt := h.eng.lt
  refine ⟨h.eng.kept (fun j _ hj => hg.block j (by omega) (by simp; omega)), ?_, ?_, h.places.of_block (hg.block pb (MapIs.lt h.places) (by simpa using hne.2)), ?_, ?_, fun j x hx c v hv => hc (h.rows j x hx c v hv), fun j x hx c v hv => hc (h.srow j x hx c v hv), fun j x hx c v hv => hc (h.trow j x hx c v hv), hc h.bx1, hc h.bx2, Nat.le_trans h.hbase hg.size, h.low, h.frame.trans ((Below.refl mb wr).grown hg (by have := h.eng.lt; omega) (fun j hj => by have := Option.some.inj hj; omega))⟩
  · intro q' ab hq hk
    have hold := h.ptr q' ab hq hk
    rw [hg.block ab (Array.getElem?_eq_some_iff.1 hold).1 (by simpa using map_ne h.lrs hold)]
    exact hold
  · intro i r hr
    obtain ⟨lb, f, g, k', h0, h1, h2, h3, h4, h5, h6, h7⟩ := h.rules i r hr
    exact ⟨lb, f, g, k', hc h0, hc h1, hc h2, hc h3, hc h4, hc h5, fun j s hs => ⟨hc (h6 j s hs).1, hc (h6 j s hs).2.1, hc (h6 j s hs).2.2.1, hc (h6 j s hs).2.2.2⟩, h7⟩
  · have e : lrMap (XL ++ [q]) = put sameP k (rdv q) (lrMap XL) := by
      unfold lrMap
      rw [gmap_snoc]
      unfold gstep
      simp only [hL]
      exact (put_map sameP rdv k q _).symm
    rw [e]
    exact hm
  · refine h.left.kept hg ?_
    rcases h.left.2 with ⟨rfl, _⟩ | ⟨g, cap, cur, rfl, _, hgb, _⟩
    · exact .inl rfl
    · right
      simp only [Value.ownBlock]
      intro e
      exact map_ne h.lrs hgb (Option.some.inj e)

/-- The end of a cooldown is written. -/
theorem Rel3.putC (h : Rel3 w0 sa ta mb rb pb lr bx base kb sb tb rs R K S T' XS XA XC XL U wr l) (q : ZK) (k : Key) (hC : keyC R q = some k) (hne : pb ≠ mb + 2 ∧ lr ≠ mb + 2) (hg : wr.grownBy w2 (some (mb + 2))) (hm : MapIs w2 (mb + 2) kv (put Key.same k (T q.cool) (coMap R XC))) :
    Rel3 w0 sa ta mb rb pb lr bx base kb sb tb rs R K S T' XS XA (XC ++ [q]) XL U w2 l := by
  have hc := fun {a : Addr} {v : Value} (hv : wr.cell? a = some v) => cell_turn h.eng.cool hg hv
  have hlt := h.eng.lt
  have hlow := h.eng.low
  refine ⟨?_, ?_, ?_, h.places.of_block (hg.block pb (MapIs.lt h.places) (by simpa using hne.1)), h.lrs.of_block (hg.block lr (MapIs.lt h.lrs) (by simpa using hne.2)), ?_, fun j x hx c v hv => hc (h.rows j x hx c v hv), fun j x hx c v hv => hc (h.srow j x hx c v hv), fun j x hx c v hv => hc (h.trow j x hx c v hv), hc h.bx1, hc h.bx2, Nat.le_trans h.hbase hg.size, h.low, h.frame.trans ((Below.refl mb wr).grown hg (by have := h.eng.lt; omega) (fun j hj => by have := Option.some.inj hj; omega))⟩
  · have e : coMap R (XC ++ [q]) = put Key.same k (T q.cool) (coMap R XC) := by
      unfold coMap
      rw [gmap_snoc]
      unfold gstep
      simp only [hC]
      exact (put_map Key.same (fun q : ZK => T q.cool) k q _).symm
    rw [e]
    obtain ⟨r, hr⟩ := h.eng.eng
    have hrul := h.eng.rul
    exact ⟨hlow, ⟨r, by rw [hg.block (mb + 5) hlt (by simp)]; exact hr⟩, by rw [hg.block rb (Array.getElem?_eq_some_iff.1 hrul).1 (by simp; omega)]; exact hrul, h.eng.alarms.of_block (hg.block mb (by omega) (by simp)), h.eng.last.of_block (hg.block (mb + 1) (by omega) (by simp)), hm, h.eng.keys.of_block (hg.block (mb + 3) (by omega) (by simp)), h.eng.ser.of_block (hg.block (mb + 4) (by omega) (by simp))⟩
  · intro q' ab hq hk
    have hold := h.ptr q' ab hq hk
    rw [hg.block ab (Array.getElem?_eq_some_iff.1 hold).1 (by simpa using map_ne h.eng.cool hold)]
    exact hold
  · intro i r hr
    obtain ⟨lb, f, g, k', h0, h1, h2, h3, h4, h5, h6, h7⟩ := h.rules i r hr
    exact ⟨lb, f, g, k', hc h0, hc h1, hc h2, hc h3, hc h4, hc h5, fun j s hs => ⟨hc (h6 j s hs).1, hc (h6 j s hs).2.1, hc (h6 j s hs).2.2.1, hc (h6 j s hs).2.2.2⟩, h7⟩
  · refine h.left.kept hg ?_
    rcases h.left.2 with ⟨rfl, _⟩ | ⟨g, cap, cur, rfl, _, hgb, _⟩
    · exact .inl rfl
    · right
      simp only [Value.ownBlock]
      intro e
      exact map_ne h.eng.cool hgb (Option.some.inj e)

/-- An alarm that was just made is written. -/
theorem Rel3.putA (h : Rel3 w0 sa ta mb rb pb lr bx base kb sb tb rs R K S T' XS XA XC XL U wr l) (q : ZK) (k : Key) (ab : Nat) (hA : keyA R q = some k) (hab : wr.heap[ab]? = some (Obj.cells (alCells q) 136)) (hne : pb ≠ mb ∧ lr ≠ mb) (hg : wr.grownBy w2 (some mb)) (hm : MapIs w2 mb kv (put Key.same k (.pointer (some ⟨ab, 0, none⟩)) (alMap R XA))) :
    Rel3 w0 sa ta mb rb pb lr bx base kb sb tb rs R K S T' XS (XA ++ [(q, ab)]) XC XL U w2 l := by
  have hc := fun {a : Addr} {v : Value} (hv : wr.cell? a = some v) => cell_turn h.eng.alarms hg hv
  have hlt := h.eng.lt
  have hlow := h.eng.low
  refine ⟨?_, ?_, ?_, h.places.of_block (hg.block pb (MapIs.lt h.places) (by simpa using hne.1)), h.lrs.of_block (hg.block lr (MapIs.lt h.lrs) (by simpa using hne.2)), ?_, fun j x hx c v hv => hc (h.rows j x hx c v hv), fun j x hx c v hv => hc (h.srow j x hx c v hv), fun j x hx c v hv => hc (h.trow j x hx c v hv), hc h.bx1, hc h.bx2, Nat.le_trans h.hbase hg.size, h.low, h.frame.trans ((Below.refl mb wr).grown hg (by have := h.eng.lt; omega) (fun j hj => by have := Option.some.inj hj; omega))⟩
  · have e : alMap R (XA ++ [(q, ab)]) = put Key.same k (.pointer (some ⟨ab, 0, none⟩)) (alMap R XA) := by
      unfold alMap
      rw [gmap_snoc]
      unfold gstep
      simp only [hA]
      exact (put_map Key.same (fun x : ZK × Nat => Value.pointer (some ⟨x.2, 0, none⟩)) k (q, ab) _).symm
    rw [e]
    obtain ⟨r, hr⟩ := h.eng.eng
    have hrul := h.eng.rul
    exact ⟨hlow, ⟨r, by rw [hg.block (mb + 5) hlt (by simp)]; exact hr⟩, by rw [hg.block rb (Array.getElem?_eq_some_iff.1 hrul).1 (by simp; omega)]; exact hrul, hm, h.eng.last.of_block (hg.block (mb + 1) (by omega) (by simp)), h.eng.cool.of_block (hg.block (mb + 2) (by omega) (by simp)), h.eng.keys.of_block (hg.block (mb + 3) (by omega) (by simp)), h.eng.ser.of_block (hg.block (mb + 4) (by omega) (by simp))⟩
  · intro q' ab' hq hk
    rcases List.mem_append.1 hq with hq | hq
    · have hold := h.ptr q' ab' hq hk
      rw [hg.block ab' (Array.getElem?_eq_some_iff.1 hold).1 (by simpa using map_ne h.eng.alarms hold)]
      exact hold
    · simp at hq
      obtain ⟨rfl, rfl⟩ := hq
      rw [hg.block ab' (Array.getElem?_eq_some_iff.1 hab).1 (by simpa using map_ne h.eng.alarms hab)]
      exact hab
  · intro i r hr
    obtain ⟨lb, f, g, k', h0, h1, h2, h3, h4, h5, h6, h7⟩ := h.rules i r hr
    exact ⟨lb, f, g, k', hc h0, hc h1, hc h2, hc h3, hc h4, hc h5, fun j s hs => ⟨hc (h6 j s hs).1, hc (h6 j s hs).2.1, hc (h6 j s hs).2.2.1, hc (h6 j s hs).2.2.2⟩, h7⟩
  · refine h.left.kept hg ?_
    rcases h.left.2 with ⟨rfl, _⟩ | ⟨g, cap, cur, rfl, _, hgb, _⟩
    · exact .inl rfl
    · right
      simp only [Value.ownBlock]
      intro e
      exact map_ne h.eng.alarms hgb (Option.some.inj e)
/-- The last time of a series is written. -/
theorem Rel3.putS (h : Rel3 w0 sa ta mb rb pb lr bx base kb sb tb rs R K S T' XS XA XC XL U wr l) (q : ZS) (hne : pb ≠ mb + 1 ∧ lr ≠ mb + 1) (hg : wr.grownBy w2 (some (mb + 1))) (hm : MapIs w2 (mb + 1) pv (put sameP (q.sensor, q.metric) (T q.last) (lsMap XS))) :
    Rel3 w0 sa ta mb rb pb lr bx base kb sb tb rs R K S T' (XS ++ [q]) XA XC XL U w2 l := by
  have hc := fun {a : Addr} {v : Value} (hv : wr.cell? a = some v) => cell_turn h.eng.last hg hv
  have hlt := h.eng.lt
  have hlow := h.eng.low
  refine ⟨?_, ?_, ?_, h.places.of_block (hg.block pb (MapIs.lt h.places) (by simpa using hne.1)), h.lrs.of_block (hg.block lr (MapIs.lt h.lrs) (by simpa using hne.2)), ?_, fun j x hx c v hv => hc (h.rows j x hx c v hv), fun j x hx c v hv => hc (h.srow j x hx c v hv), fun j x hx c v hv => hc (h.trow j x hx c v hv), hc h.bx1, hc h.bx2, Nat.le_trans h.hbase hg.size, h.low, h.frame.trans ((Below.refl mb wr).grown hg (by have := h.eng.lt; omega) (fun j hj => by have := Option.some.inj hj; omega))⟩
  · have e : lsMap (XS ++ [q]) = put sameP (q.sensor, q.metric) (T q.last) (lsMap XS) := by
      unfold lsMap
      rw [gmap_snoc]
      unfold gstep
      simp only [keyS]
      exact (put_map sameP (fun q : ZS => T q.last) (q.sensor, q.metric) q _).symm
    rw [e]
    obtain ⟨r, hr⟩ := h.eng.eng
    have hrul := h.eng.rul
    exact ⟨hlow, ⟨r, by rw [hg.block (mb + 5) hlt (by simp)]; exact hr⟩, by rw [hg.block rb (Array.getElem?_eq_some_iff.1 hrul).1 (by simp; omega)]; exact hrul, h.eng.alarms.of_block (hg.block mb (by omega) (by simp)), hm, h.eng.cool.of_block (hg.block (mb + 2) (by omega) (by simp)), h.eng.keys.of_block (hg.block (mb + 3) (by omega) (by simp)), h.eng.ser.of_block (hg.block (mb + 4) (by omega) (by simp))⟩
  · intro q' ab hq hk
    have hold := h.ptr q' ab hq hk
    rw [hg.block ab (Array.getElem?_eq_some_iff.1 hold).1 (by simpa using map_ne h.eng.last hold)]
    exact hold
  · intro i r hr
    obtain ⟨lb, f, g, k', h0, h1, h2, h3, h4, h5, h6, h7⟩ := h.rules i r hr
    exact ⟨lb, f, g, k', hc h0, hc h1, hc h2, hc h3, hc h4, hc h5, fun j s hs => ⟨hc (h6 j s hs).1, hc (h6 j s hs).2.1, hc (h6 j s hs).2.2.1, hc (h6 j s hs).2.2.2⟩, h7⟩
  · refine h.left.kept hg ?_
    rcases h.left.2 with ⟨rfl, _⟩ | ⟨g, cap, cur, rfl, _, hgb, _⟩
    · exact .inl rfl
    · right
      simp only [Value.ownBlock]
      intro e
      exact map_ne h.eng.last hgb (Option.some.inj e)

/-- A row of transitions has grown: nothing of it turns. -/
theorem Rel3.turn (h : Rel3 w0 sa ta mb rb pb lr bx base kb sb tb rs R K S T' XS XA XC XL U wr l) {lE : Value} {n : Nat} {xs : List Value} (hE : wr.ownsRow base 74 13 lE n xs) (hg : wr.grownBy w2 lE.ownBlock) :
    Rel3 w0 sa ta mb rb pb lr bx base kb sb tb rs R K S T' XS XA XC XL U w2 l := by
  have hb : Below base wr w2 := (Below.refl base wr).grown hg h.hbase (fun j hj => (hE.lt j hj).1)
  obtain ⟨l1, l2, l3, l4, l5, l6, l7, l8⟩ := h.low
  refine ⟨h.eng.kept (fun j _ hj => hb.block j (by omega)), ?_, h.rules.belowB hb l8, h.places.of_block (hb.block _ l2), h.lrs.of_block (hb.block _ l3), ?_, h.rows.belowB hb l5, h.srow.belowB hb l6, h.trow.belowB hb l7, by rw [hb.cell l4]; exact h.bx1, by rw [hb.cell l4]; exact h.bx2, Nat.le_trans h.hbase hb.size, h.low, h.frame.trans (hb.mono (by omega))⟩
  · intro q' ab hq hk
    have hold := h.ptr q' ab hq hk
    rw [hg.block ab (Array.getElem?_eq_some_iff.1 hold).1 ?_]
    · exact hold
    · intro e
      rcases hE.2 with ⟨rfl, _⟩ | ⟨g, cap, cur, rfl, _, hgb, _⟩
      · simp [Value.ownBlock] at e
      · simp only [Value.ownBlock] at e
        have e' : ab = g := Option.some.inj e
        subst e'
        rw [hgb] at hold
        simp at hold
  · refine h.left.kept hg ?_
    rcases h.left.2 with ⟨rfl, _⟩ | ⟨g, cap, cur, rfl, _, hgb, _⟩
    · exact .inl rfl
    · right
      rcases hE.2 with ⟨rfl, _⟩ | ⟨g', cap', cur', rfl, _, hgb', _⟩
      · simp [Value.ownBlock]
      · simp only [Value.ownBlock]
        intro e
        have e' : g = g' := Option.some.inj e
        subst e'
        rw [hgb] at hgb'
        simp at hgb'
end
end Go.Proofs.Qxb6605676a.Kz
