import Derived.Test.Qxb6605845aS2
import Derived.Laws.AppendOwnNone
namespace Go.Proofs.Qxb6605845a.Ec
set_option linter.unusedVariables false
set_option linter.unusedSimpArgs false
open Go.RowKit

theorem info5 : ∃ i, Try.prog.info? 5 = some i ∧ i.zero = some (.int .u8 0) ∧ i.size = 1 ∧ i.bytes = 1 := by
  have h : (Try.prog.info? 5).map (fun i => (i.zero, i.size, i.bytes)) = some (some (.int .u8 0), 1, 1) := by kernel_rfl
  cases hj : Try.prog.info? 5 with
  | none => rw [hj] at h; cases h
  | some i =>
    rw [hj] at h
    simp at h
    exact ⟨i, rfl, h.1, h.2.1, h.2.2⟩

/-- v is the call's own slice of the bytes bs. -/
def Row (w : World) (B : Nat) (v : Value) (bs : List UInt8) : Prop := w.ownsRow B 5 1 v bs.length (Lib.byteCells bs)

/-- From w to w' only rows of bytes from block B on, and new blocks, have turned. -/
structure Ap (B : Nat) (w w' : World) : Prop where
  bel : Below B w w'
  kept : ∀ k, k < w.heap.size → (∀ cur, w.heap[k]? ≠ some (.cells cur 5 (0, 0))) → w'.heap[k]? = w.heap[k]?

theorem Ap.refl (B : Nat) (w : World) : Ap B w w := ⟨Below.refl _ _, fun _ _ _ => rfl⟩
theorem Ap.trans {B : Nat} {a b c : World} (h : Ap B a b) (k : Ap B b c) : Ap B a c :=
  ⟨h.bel.trans k.bel, fun j hj hn => by
    have h1 := h.kept j hj hn
    rw [k.kept j (Nat.lt_of_lt_of_le hj h.bel.size) (by rw [h1]; exact hn), h1]⟩
theorem Ap.alloc {B : Nat} {a w : World} (h : Ap B a w) (hB : B ≤ w.heap.size) (o : Obj) : Ap B a (w.alloc o) :=
  h.trans ⟨(Below.refl B w).alloc hB o, fun k hk _ => Below.heap_alloc w o k hk⟩
theorem Ap.append {B : Nat} {a w w' : World} {v : Value} {n : Nat} {xs : List Value} (h : Ap B a w) (hown : w.ownsRow B 5 1 v n xs) (hg : w.grownBy w' v.ownBlock) (hB : B ≤ w.heap.size) : Ap B a w' :=
  h.trans ⟨(Below.refl B w).grown hg hB (fun k hk => (hown.lt k hk).1), fun k hk hn => hg.block k hk (by
    rcases hown.2 with ⟨rfl, _⟩ | ⟨g, cap, cur, rfl, _, hgb, _⟩
    · simp [Value.ownBlock]
    · simp only [Value.ownBlock]
      intro e
      have e' : k = g := by simpa using e
      subst e'
      exact hn cur hgb)⟩
theorem Ap.cell {B : Nat} {w w' : World} (h : Ap B w w') {a : Addr} {v : Value} {cur : Array Value} {T : TypeId} {fr : Nat × Nat} (hb : w.heap[a.block]? = some (.cells cur T fr)) (hT : T ≠ 5) : w'.cell? a = w.cell? a := by
  refine World.cell?_of_block (w := w) (h.kept a.block ?_ ?_)
  · have := Array.getElem?_eq_some_iff.1 hb
    exact this.1
  · intro c e
    rw [hb] at e
    simp at e
    exact hT e.2.1

/-- What an appending function does: bs grows by add. -/
def App (B : Nat) (bs add : List UInt8) (w : World) (e : Ending) (w' : World) : Prop := ∃ v', e = .returned v' ∧ Row w' B v' (bs ++ add) ∧ Ap B w w'

set_option maxHeartbeats 4000000 in
set_option maxRecDepth 100000 in
theorem appendUvarint (B x : Nat) (hx : x < 2 ^ 64) (sv : Value) (bs : List UInt8) (w : World) (hown : Row w B sv bs) (hBw : B ≤ w.heap.size) (hlim : bs.length + 10 ≤ 140737488355328) :
    Calls Try.prog 38 #[sv, .int .u64 x] w (App B bs (Lib.uvarint x) w) := by
  obtain ⟨i0, hi, hz0, hz1, hz2⟩ := info5
  have hlen := Lib.uvarint_length64 (x := x) (by omega)
  go_enter Try.func38, Try.ntmps38
  go_wp2
  go_loopw [0, 1] (fun vb vx wr => ∃ (y : Nat) (pre : List UInt8), vx = .int .u64 y ∧ y ≤ x ∧ Lib.uvarint x = pre ++ Lib.uvarint y ∧ Row wr B vb (bs ++ pre) ∧ Ap B w wr)
    (fun _ vx _ => (intOf vx).toNat)
  case atStart => exact ⟨x, [], rfl, Nat.le_refl _, rfl, by simpa using hown, Ap.refl _ _⟩
  case round =>
    obtain ⟨y, pre, rfl, hy, hsplit, hown1, hnx⟩ := hrel
    have hpl : pre.length + (Lib.uvarint y).length ≤ 10 := by
      have h2 := congrArg List.length hsplit
      rw [List.length_append] at h2
      omega
    have hyp := Lib.uvarint_pos y
    have hsz := hnx.bel.size
    unfold Row at hown1
    have hbl : (bs ++ pre).length = bs.length + pre.length := List.length_append
    generalize hbp : bs ++ pre = bp at *
    by_cases h128 : 128 ≤ y
    · have hor : bits .or .u8 ((y : Int) % 256) 128 = ((y % 128 + 128 : Nat) : Int) := by
        rw [Lib.u8_or128_any _ (by omega) (by omega)]
        omega
      go_wp2_with (at_builtin; refine wpList_append_own _ rfl _ _ 33 rfl B 5 i0 (.int .u8 0) 1 1 Try.underlying33 hi hz0 hz1 hz2 rfl (by decide) _ _ _ rfl (hown1.alloc _) ⟨wr.heap.size, 0, none⟩ 1 1 [Value.int .u8 ((y % 128 + 128 : Nat) : Int)] rfl rfl ?c1 ?c2 ?c3 ?c4 ?c5 ?_)
      case c1 =>
        intro j u hj
        match j, hj with
        | 0, hj => simp at hj; subst hj; simp [Addr.add]
      case c2 => intro u hu; simp at hu; subst hu; rfl
      case c3 => unfold maxLen; omega
      case c4 => omega
      case c5 => simp; omega
      intro v' w1 hown' hgrow _
      have hnx1 : Ap B w w1 := (hnx.alloc (by omega) _).append (hown1.alloc _) hgrow (by simp; omega)
      go_wp2
      go_roundw
      case rel =>
        refine ⟨y / 128, pre ++ [(y % 128 + 128).toUInt8], by go_num, by omega, by rw [hsplit, Lib.uvarint_big h128]; simp, ?_, hnx1⟩
        have ec : ((y % 128 + 128 : Nat) : Int) = (y : Int) % 128 + 128 := by omega
        unfold Row
        rw [← List.append_assoc, hbp, Lib.byteCells_snoc bp (by omega), List.length_append, List.length_singleton, hbl, ec]
        exact hown'
      case measure => simp [intOf]; omega
    · have hsm : Lib.uvarint y = [y.toUInt8] := Lib.uvarint_small (by omega)
      go_wp2_with (at_builtin; refine wpList_append_own _ rfl _ _ 33 rfl B 5 i0 (.int .u8 0) 1 1 Try.underlying33 hi hz0 hz1 hz2 rfl (by decide) _ _ _ rfl (hown1.alloc _) ⟨wr.heap.size, 0, none⟩ 1 1 [Value.int .u8 (y : Int)] rfl rfl ?c1 ?c2 ?c3 ?c4 ?c5 ?_)
      case c1 =>
        intro j u hj
        match j, hj with
        | 0, hj => simp at hj; subst hj; simp [Addr.add]
      case c2 => intro u hu; simp at hu; subst hu; rfl
      case c3 => unfold maxLen; omega
      case c4 => omega
      case c5 => simp; omega
      intro v' w1 hown' hgrow _
      have hnx1 : Ap B w w1 := (hnx.alloc (by omega) _).append (hown1.alloc _) hgrow (by simp; omega)
      go_wp2
      go_ret
      refine ⟨v', rfl, ?_, hnx1⟩
      unfold Row
      rw [hsplit, hsm, ← List.append_assoc, hbp, Lib.byteCells_snoc bp (by omega), List.length_append, List.length_singleton, hbl]
      exact hown'

theorem appendUvarintZ (B : Nat) (z : Int) (sv : Value) (bs : List UInt8) (w : World) (hown : Row w B sv bs) (hBw : B ≤ w.heap.size) (hlim : bs.length + 10 ≤ 140737488355328) :
    Calls Try.prog 38 #[sv, .int .u64 (IntKind.u64.wrap z)] w (App B bs (Lib.uvarint (u64 z)) w) := by
  rw [wrap_u64]; exact appendUvarint B _ (u64_lt z) sv bs w hown hBw hlim

set_option maxHeartbeats 800000 in
set_option maxRecDepth 100000 in
theorem appendString (B : Nat) (s : ByteArray) (sv : Value) (bs : List UInt8) (w : World) (hown : Row w B sv bs) (hBw : B ≤ w.heap.size) (hlim : bs.length + s.size + 10 ≤ 140737488355328) :
    Calls Try.prog 41 #[sv, .string s] w (App B bs (encS s) w) := by
  obtain ⟨i0, hi, hz0, hz1, hz2⟩ := info5
  have hlen := Lib.uvarint_length64 (x := s.size) (by omega)
  go_enter Try.func41, Try.ntmps41
  go_wp2_with (first
    | (go_at_call 38; refine (appendUvarint B s.size (by omega) sv bs w hown hBw (by omega)).mono ?_; rintro _ w1 ⟨v1, rfl, hown1, hap1⟩
       have hsz := hap1.bel.size
       have hbl : (bs ++ Lib.uvarint s.size).length = bs.length + (Lib.uvarint s.size).length := List.length_append
       unfold Row at hown1
       generalize hbp : bs ++ Lib.uvarint s.size = bp at *)
    | (at_builtin; refine Lib.wpList_append_own_string _ rfl _ _ 33 9 rfl B 5 i0 Try.underlying33 Try.underlying9 hi hz0 hz1 hz2 _ _ _ rfl (by assumption) s rfl (by unfold maxLen; omega) (by omega) (by omega) ?_; intro v2 w2 hown2 hgrow2 _))
  go_ret
  refine ⟨v2, rfl, ?_, hap1.append hown1 hgrow2 (by omega)⟩
  unfold Row encS
  rw [← List.append_assoc, hbp, Lib.byteCells_append, List.length_append, ← Lib.strCells_eq]
  simpa using hown2
end Go.Proofs.Qxb6605845a.Ec
