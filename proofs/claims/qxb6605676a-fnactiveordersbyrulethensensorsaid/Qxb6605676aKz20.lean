import Derived.Test.Qxb6605676aKz19
import Derived.Test.Qxb6605676aRs2
import Derived.Test.Qxb6605676aKz11
namespace Go.Proofs.Qxb6605676a.Kz
set_option linter.unusedVariables false
set_option linter.unusedSimpArgs false
open Go.RowKit Go.Proofs.Qxb6605676a.Mp Go.Proofs.Qxb6605676a.Tm Go.Proofs.Qxb6605676a.En
open Go.ChangeMaps (setBlock heap_setBlock_same)

/-- The rules in the engine. -/
def RulesIn (w : World) (B rb : Nat) (R : List RuleD) : Prop := ∀ i r, R[i]? = some r → ∃ lb f g h, w.cell? ⟨rb, i * 6, none⟩ = some (.string r.name) ∧ w.cell? ⟨rb, i * 6 + 1, none⟩ = some (.string r.metric) ∧ w.cell? ⟨rb, i * 6 + 2, none⟩ = some (.slice (some ⟨lb, 0, none⟩) r.sevs.length r.sevs.length) ∧ w.cell? ⟨rb, i * 6 + 3, none⟩ = some (.int .i64 f) ∧ w.cell? ⟨rb, i * 6 + 4, none⟩ = some (.int .i64 g) ∧ w.cell? ⟨rb, i * 6 + 5, none⟩ = some (.int .i64 h) ∧ LevelsAt w lb r.sevs ∧ lb < B

theorem RulesIn.below {w w' : World} {B rb : Nat} {R : List RuleD} (h : RulesIn w B rb R) (hb : Below w.heap.size w w') : RulesIn w' B rb R := by
  intro i r hr
  obtain ⟨lb, f, g, k, h0, h1, h2, h3, h4, h5, h6, h7⟩ := h i r hr
  have hl : rb < w.heap.size := World.block_lt_of_cell? w _ h0
  exact ⟨lb, f, g, k, by rw [hb.cell hl]; exact h0, by rw [hb.cell hl]; exact h1, by rw [hb.cell hl]; exact h2, by rw [hb.cell hl]; exact h3, by rw [hb.cell hl]; exact h4, by rw [hb.cell hl]; exact h5, h6.below hb, h7⟩
theorem LevelsAt.belowB {w w' : World} {lb B : Nat} {S : List ByteArray} (h : LevelsAt w lb S) (hb : Below B w w') (hl : lb < B) : LevelsAt w' lb S := by
  intro j s hs
  obtain ⟨h0, h1, h2, h3⟩ := h j s hs
  exact ⟨by rw [hb.cell hl]; exact h0, by rw [hb.cell hl]; exact h1, by rw [hb.cell hl]; exact h2, by rw [hb.cell hl]; exact h3⟩
theorem RulesIn.belowB {w w' : World} {B rb : Nat} {R : List RuleD} (h : RulesIn w B rb R) (hb : Below B w w') (hl : rb < B) : RulesIn w' B rb R := by
  intro i r hr
  obtain ⟨lb, f, g, k, h0, h1, h2, h3, h4, h5, h6, h7⟩ := h i r hr
  exact ⟨lb, f, g, k, by rw [hb.cell hl]; exact h0, by rw [hb.cell hl]; exact h1, by rw [hb.cell hl]; exact h2, by rw [hb.cell hl]; exact h3, by rw [hb.cell hl]; exact h4, by rw [hb.cell hl]; exact h5, h6.belowB hb h7, h7⟩
theorem range_belowB {W W' : World} {b o B : Nat} {cs : List Value} (h : W.rangeAt b o cs) (hb : Below B W W') (hl : b < B) : W'.rangeAt b o cs := fun j v hv => by rw [hb.cell hl]; exact h j v hv
theorem RowsAt.belowB {α} {W W' : World} {b n B : Nat} {f : α → List Value} {L : List α} (h : RowsAt W b n f L) (hb : Below B W W') (hl : b < B) : RowsAt W' b n f L := fun j x hx => range_belowB (h j x hx) hb hl

theorem plcs_snoc : ∀ (R : List RuleD) (r : RuleD) (i : Nat) (M : List (ByteArray × Value)), plcs (R ++ [r]) i M = put sameS r.name (.int .i64 (i + R.length : Nat)) (plcs R i M)
  | [], r, i, M => by simp [plcs]
  | q :: R, r, i, M => by
    rw [List.cons_append]
    unfold plcs
    rw [plcs_snoc R r (i + 1)]
    rw [List.length_cons, show i + 1 + R.length = i + (R.length + 1) by omega]
theorem plcs_take (R : List RuleD) (k : Nat) (h : k < R.length) : plcs (R.take (k + 1)) 0 [] = put sameS R[k].name (.int .i64 k) (plcs (R.take k) 0 []) := by
  have e : (R.take k).length = k := by simp; omega
  rw [List.take_succ_eq_append_getElem h, plcs_snoc, e, Nat.zero_add]

theorem wpList_store_new {ops : Array Oper} {rest : List Oper} {op : Oper} {a : Act} {W : World} {Q : Exit → Act → World → Prop} (hgd : op.guard = none) (ty : TypeId) (x y : Operand) (ho : op.op = .store ty x y) (c cells : Array Value)
    (hx : a.eval x = .pointer (some ⟨W.heap.size, 0, none⟩)) (hy : a.eval y = .agg cells) (hi : (Try.prog.info? ty).map (·.size) = some cells.size) (hs : c.size = cells.size) (h1 : cells.all (·.oneCell') = true)
    (h : wpList Try.prog ops Q rest (a.put op.dst undef) (W.alloc (.cells cells ty))) : wpList Try.prog ops Q (op :: rest) a (W.alloc (.cells c ty)) :=
  wpList_plain hgd fun K hK => Rs.wp_store_new ty x y ho c cells hx hy hi hs h1 (hK _ _ h)

theorem ksOne (q : ZK) : (ksCells q).toArray.all (·.oneCell') = true := by simp [ksCells, Value.oneCell']
theorem ksNew (W : World) (q : ZK) (c : Nat) (v : Value) (h : (ksCells q)[c]? = some v) : (W.alloc (.cells (ksCells q).toArray 107)).cell? ⟨W.heap.size, c, none⟩ = some v := by
  unfold World.cell?
  rw [heap_alloc_new]
  simpa using h

theorem lfOne (q : ZK) : ∀ u ∈ lfCells q, u.oneCell' = true := by
  have h : (lfCells q).all (·.oneCell') = true := by simp [lfCells, Value.oneCell']
  intro u hu
  exact List.all_eq_true.1 h u hu
theorem lfLen (q : ZK) : (lfCells q).length = 21 := rfl
theorem info107' : ∃ i z, Try.prog.info? 107 = some i ∧ i.zero = some z ∧ i.size = 21 ∧ i.bytes = 224 ∧ z.cells.size = 21 := by
  have h : (Try.prog.info? 107).any (fun i => i.size == 21 && i.bytes == 224 && i.zero.any (fun z => z.cells.size == 21)) = true := by kernel_rfl
  cases hj : Try.prog.info? 107 with
  | none => rw [hj] at h; cases h
  | some i =>
    rw [hj] at h
    cases hz : i.zero with
    | none => simp [hz] at h
    | some z =>
      simp [hz] at h
      exact ⟨i, z, rfl, hz, h.1.1, h.1.2, h.2⟩
theorem info74' : ∃ i z, Try.prog.info? 74 = some i ∧ i.zero = some z ∧ i.size = 13 ∧ i.bytes = 144 ∧ z.cells.size = 13 := by
  have h : (Try.prog.info? 74).any (fun i => i.size == 13 && i.bytes == 144 && i.zero.any (fun z => z.cells.size == 13)) = true := by kernel_rfl
  cases hj : Try.prog.info? 74 with
  | none => rw [hj] at h; cases h
  | some i =>
    rw [hj] at h
    cases hz : i.zero with
    | none => simp [hz] at h
    | some z =>
      simp [hz] at h
      exact ⟨i, z, rfl, hz, h.1.1, h.1.2, h.2⟩
end Go.Proofs.Qxb6605676a.Kz
