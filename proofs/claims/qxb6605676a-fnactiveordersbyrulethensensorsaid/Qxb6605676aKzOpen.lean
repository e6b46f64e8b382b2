import Derived.Test.Qxb6605676aRows
import Derived.Test.Qxb6605676aZOpen
import Derived.Test.Qxb6605676aKz9
import Derived.WalkKit
import Derived.ProofKit
import Derived.OpenShut
import Derived.Deep.Slices
import Derived.Deep.Fields
import Derived.Deep.MidRow
import Derived.ChangeSlices
namespace Go.Proofs.Qxb6605676a.Kz
set_option linter.unusedVariables false
set_option linter.unusedSimpArgs false
open Go.ChangeShapes Go.WideShapes Go.ChangeAt Go.RowKit Go.Deep

section
variable {H : Type} {enc : TypeId × Value → H} {P : Program} {w : World} {base : Nat} {spare : Nat → Bool} {held : Bool}

/-- A slice of structs of one-cell fields, opened. -/
theorem open_rows {t e : TypeId} {fs : Array Field} {fuel : Nat} {cs : List Value} {x : DataW H × List MemPlace} (ht : P.underlying t = some (.slice e)) (hs : P.underlying e = some (.struct fs))
    (hone : ∀ (i : Nat) (f : Field), fs[i]? = some f → f.offset = i ∧ P.cellsOf f.type = 1) (hC : P.cellsOf e = fs.size) (h : DataW.trod enc P w base spare held fuel t cs = some x) :
    cs = [.slice none 0 0] ∨
    ∃ (a : Addr) (len cap : Nat), cs = [.slice (some a) len cap] ∧ len ≤ maxLen ∧ ∀ i, i < len → ∃ (n : Nat) (V : Nat → Value) (Y : Nat → DataW H × List MemPlace),
      ∀ (k : Nat) (f : Field), fs[k]? = some f → w.cell? (a.add (i * fs.size + k)) = some (V k) ∧ DataW.trod enc P w base spare held n f.type [V k] = some (Y k) := by
  rcases open_slice ht h with h0 | ⟨a, len, cap, m, n, D, Pl, rfl, hb, hl, hm, hmm, rfl, hx⟩
  · exact Or.inl h0.1
  right
  have hlm : len ≤ m := by rw [hmm]; split <;> omega
  refine ⟨a, len, cap, rfl, by omega, fun i hi => ?_⟩
  obtain ⟨cs', hcells, hy⟩ := hx i (by omega)
  obtain ⟨hb', hlen, hcell⟩ := World.cells?_some hcells
  rw [hC] at hlen hcell
  obtain ⟨xs, n', _, hE, _, hxl, hf⟩ := DataW.trod_struct hs hy
  refine ⟨n', fun k => cs'.getD k undef, fun k => xs.getD k (.nil, []), fun k f hk => ?_⟩
  have hlt : k < fs.size := (Array.getElem?_eq_some_iff.1 hk).1
  obtain ⟨ho, hc1⟩ := hone k f hk
  have g := hf k f hk
  rw [ho, hc1] at g
  rw [take1_drop cs' k undef (by omega), List.getElem?_eq_getElem (by omega)] at g
  refine ⟨?_, ?_⟩
  · have := hcell k hlt
    rw [add_add, List.getElem?_eq_getElem (by omega)] at this
    rw [this]
    simp [List.getD, List.getElem?_eq_getElem (show k < cs'.length by omega)]
  · rw [g]
    simp [List.getD, List.getElem?_eq_getElem (show k < xs.length by omega)]
end

/-- A list out of a function. -/
theorem rows_of {α : Type} [Inhabited α] {len : Nat} {p : Nat → α → Prop} (h : ∀ i, i < len → ∃ x, p i x) : ∃ L : List α, L.length = len ∧ ∀ j x, L[j]? = some x → p j x := by
  obtain ⟨f, hf⟩ := choose_lt h
  refine ⟨(List.range len).map f, by simp, fun j x hx => ?_⟩
  rw [List.getElem?_map] at hx
  have hj : j < len := by
    rcases Nat.lt_or_ge j len with h | h
    · exact h
    · rw [List.getElem?_eq_none (by simpa using h)] at hx; cases hx
  rw [List.getElem?_range hj] at hx
  simp at hx
  subst hx
  exact hf j hj

instance : Inhabited ZK := ⟨noKey⟩
instance : Inhabited ZS := ⟨⟨⟨#[]⟩, ⟨#[]⟩, 0⟩⟩
instance : Inhabited ZR := ⟨⟨⟨#[]⟩, ⟨#[]⟩, ⟨#[]⟩, ⟨#[]⟩, 0, 0, 0⟩⟩

set_option maxRecDepth 100000 in
theorem argK {H : Type} {enc : TypeId × Value → H} {W : World} {base : Nat} {r : Reach} {v : Value} {d : DataW H} {ps : List MemPlace} (hval : Value.okWide Try.prog W r base 22 v) (h : DataW.Trod enc Try.prog W 0 (fun _ => true) true 22 v d ps) :
    ∃ (ao : Option Addr) (L : List ZK) (c : Nat), v = .slice ao L.length c ∧ ((L = [] ∧ (ao = none → c = 0)) ∨ ∃ b o, ao = some ⟨b, o, none⟩ ∧ KeysAt W b o L) ∧ (∀ q ∈ L, ZK.Ok q) ∧ L.length ≤ maxLen := by
  obtain ⟨a0, len, cap, rfl⟩ := okWide_slice Try.underlying22 hval
  obtain ⟨fuel, hf⟩ := h
  rcases open_rows Try.underlying22 Try.underlying109 (hone_of (by kernel_rfl)) (by kernel_rfl) hf with hcs | ⟨a, len', cap', hcs, hm, hx⟩
  · simp [Value.cells] at hcs
    obtain ⟨rfl, rfl, rfl⟩ := hcs
    exact ⟨none, [], 0, rfl, .inl ⟨rfl, fun _ => rfl⟩, by simp, by simp⟩
  · simp [Value.cells] at hcs
    obtain ⟨rfl, rfl, rfl⟩ := hcs
    obtain ⟨L, hL, hp⟩ := rows_of (α := ZK) (len := len) (p := fun i q => (∀ c u, (zkCells q)[c]? = some u → W.cell? (a.add (i * 11 + c)) = some u) ∧ ZK.Ok q) (fun i hi => by
      obtain ⟨n, V, Y, hf⟩ := hx i hi
      obtain ⟨e0, t0⟩ := hf 0 _ rfl
      obtain ⟨e1, t1⟩ := hf 1 _ rfl
      obtain ⟨e2, t2⟩ := hf 2 _ rfl
      obtain ⟨e3, t3⟩ := hf 3 _ rfl
      obtain ⟨e4, t4⟩ := hf 4 _ rfl
      obtain ⟨e5, t5⟩ := hf 5 _ rfl
      obtain ⟨e6, t6⟩ := hf 6 _ rfl
      obtain ⟨e7, t7⟩ := hf 7 _ rfl
      obtain ⟨e8, t8⟩ := hf 8 _ rfl
      obtain ⟨e9, t9⟩ := hf 9 _ rfl
      obtain ⟨e10, t10⟩ := hf 10 _ rfl
      obtain ⟨x0, q0, _, m0⟩ := DataW.trod_string Try.underlying9 t0
      obtain ⟨x1, q1, _, m1⟩ := DataW.trod_string Try.underlying9 t1
      obtain ⟨x2, q2, _, m2⟩ := DataW.trod_string Try.underlying9 t2
      obtain ⟨x3, q3, _, m3⟩ := DataW.trod_string Try.underlying9 t3
      obtain ⟨x4, q4, _, m4⟩ := DataW.trod_string Try.underlying9 t4
      obtain ⟨x5, q5, _, m5⟩ := DataW.trod_int Try.underlying2 t5
      obtain ⟨x6, q6, _, m6⟩ := DataW.trod_int Try.underlying2 t6
      obtain ⟨x7, q7⟩ := Rm.trod_float Try.underlying60 t7
      obtain ⟨x8, q8, _⟩ := DataW.trod_bool Try.underlying4 t8
      obtain ⟨x9, q9, _, m9⟩ := DataW.trod_int Try.underlying2 t9
      obtain ⟨x10, q10, _, m10⟩ := DataW.trod_int Try.underlying2 t10
      simp only [List.cons.injEq, and_true] at q0 q1 q2 q3 q4 q5 q6 q7 q8 q9 q10
      rw [q0] at e0; rw [q1] at e1; rw [q2] at e2; rw [q3] at e3; rw [q4] at e4; rw [q5] at e5; rw [q6] at e6; rw [q7] at e7; rw [q8] at e8; rw [q9] at e9; rw [q10] at e10
      refine ⟨⟨x0, x1, x2, x3, x4, x5, x6, x7, x8, x9, x10⟩, ?_, ⟨Rm.wf64 m5, Rm.wf64 m6, Rm.wf64 m9, Rm.wf64 m10⟩⟩
      intro c u hu
      have hc : c < 11 := (List.getElem?_eq_some_iff.1 hu).1
      match c, hc, hu with
      | 0, _, hu => obtain rfl := Option.some.inj hu; exact e0
      | 1, _, hu => obtain rfl := Option.some.inj hu; exact e1
      | 2, _, hu => obtain rfl := Option.some.inj hu; exact e2
      | 3, _, hu => obtain rfl := Option.some.inj hu; exact e3
      | 4, _, hu => obtain rfl := Option.some.inj hu; exact e4
      | 5, _, hu => obtain rfl := Option.some.inj hu; exact e5
      | 6, _, hu => obtain rfl := Option.some.inj hu; exact e6
      | 7, _, hu => obtain rfl := Option.some.inj hu; exact e7
      | 8, _, hu => obtain rfl := Option.some.inj hu; exact e8
      | 9, _, hu => obtain rfl := Option.some.inj hu; exact e9
      | 10, _, hu => obtain rfl := Option.some.inj hu; exact e10)
    refine ⟨some a, L, cap, by rw [hL], ?_, fun q hq => ?_, by omega⟩
    · by_cases h0 : len = 0
      · left
        exact ⟨List.length_eq_zero_iff.1 (by omega), fun e => by cases e⟩
      · right
        obtain ⟨b, o, spot⟩ := a
        obtain ⟨h1, _⟩ := hp 0 L[0] (by simp)
        have hspot : spot = none := by
          have := h1 0 _ rfl
          simpa [Addr.add] using World.cell?_spot this
        subst hspot
        refine ⟨b, o, rfl, fun j k hk c u hu => ?_⟩
        have := (hp j k hk).1 c u hu
        rw [Addr.add_mid] at this
        rw [Nat.add_assoc]
        exact this
    · obtain ⟨j, hj, rfl⟩ := List.getElem_of_mem hq
      exact (hp j _ (by simp [hj])).2

set_option maxRecDepth 100000 in
theorem argSr {H : Type} {enc : TypeId × Value → H} {W : World} {base : Nat} {r : Reach} {v : Value} {d : DataW H} {ps : List MemPlace} (hval : Value.okWide Try.prog W r base 46 v) (h : DataW.Trod enc Try.prog W 0 (fun _ => true) true 46 v d ps) :
    ∃ (ao : Option Addr) (L : List ZS) (c : Nat), v = .slice ao L.length c ∧ ((L = [] ∧ (ao = none → c = 0)) ∨ ∃ b o, ao = some ⟨b, o, none⟩ ∧ SeriesAt W b o L) ∧ (∀ q ∈ L, I64 q.last) ∧ L.length ≤ maxLen := by
  obtain ⟨a0, len, cap, rfl⟩ := okWide_slice Try.underlying46 hval
  obtain ⟨fuel, hf⟩ := h
  rcases open_rows Try.underlying46 Try.underlying159 (hone_of (by kernel_rfl)) (by kernel_rfl) hf with hcs | ⟨a, len', cap', hcs, hm, hx⟩
  · simp [Value.cells] at hcs
    obtain ⟨rfl, rfl, rfl⟩ := hcs
    exact ⟨none, [], 0, rfl, .inl ⟨rfl, fun _ => rfl⟩, by simp, by simp⟩
  · simp [Value.cells] at hcs
    obtain ⟨rfl, rfl, rfl⟩ := hcs
    obtain ⟨L, hL, hp⟩ := rows_of (α := ZS) (len := len) (p := fun i q => (∀ c u, (zsCells q)[c]? = some u → W.cell? (a.add (i * 3 + c)) = some u) ∧ I64 q.last) (fun i hi => by
      obtain ⟨n, V, Y, hf⟩ := hx i hi
      obtain ⟨e0, t0⟩ := hf 0 _ rfl
      obtain ⟨e1, t1⟩ := hf 1 _ rfl
      obtain ⟨e2, t2⟩ := hf 2 _ rfl
      obtain ⟨x0, q0, _, m0⟩ := DataW.trod_string Try.underlying9 t0
      obtain ⟨x1, q1, _, m1⟩ := DataW.trod_string Try.underlying9 t1
      obtain ⟨x2, q2, _, m2⟩ := DataW.trod_int Try.underlying2 t2
      simp only [List.cons.injEq, and_true] at q0 q1 q2
      rw [q0] at e0; rw [q1] at e1; rw [q2] at e2
      refine ⟨⟨x0, x1, x2⟩, ?_, Rm.wf64 m2⟩
      intro c u hu
      have hc : c < 3 := (List.getElem?_eq_some_iff.1 hu).1
      match c, hc, hu with
      | 0, _, hu => obtain rfl := Option.some.inj hu; exact e0
      | 1, _, hu => obtain rfl := Option.some.inj hu; exact e1
      | 2, _, hu => obtain rfl := Option.some.inj hu; exact e2)
    refine ⟨some a, L, cap, by rw [hL], ?_, fun q hq => ?_, by omega⟩
    · by_cases h0 : len = 0
      · left
        exact ⟨List.length_eq_zero_iff.1 (by omega), fun e => by cases e⟩
      · right
        obtain ⟨b, o, spot⟩ := a
        obtain ⟨h1, _⟩ := hp 0 L[0] (by simp)
        have hspot : spot = none := by
          have := h1 0 _ rfl
          simpa [Addr.add] using World.cell?_spot this
        subst hspot
        refine ⟨b, o, rfl, fun j k hk c u hu => ?_⟩
        have := (hp j k hk).1 c u hu
        rw [Addr.add_mid] at this
        rw [Nat.add_assoc]
        exact this
    · obtain ⟨j, hj, rfl⟩ := List.getElem_of_mem hq
      exact (hp j _ (by simp [hj])).2

set_option maxRecDepth 100000 in
theorem argR {H : Type} {enc : TypeId × Value → H} {W : World} {base : Nat} {r : Reach} {v : Value} {d : DataW H} {ps : List MemPlace} (hval : Value.okWide Try.prog W r base 47 v) (h : DataW.Trod enc Try.prog W 0 (fun _ => true) true 47 v d ps) :
    ∃ (ao : Option Addr) (L : List ZR) (c : Nat), v = .slice ao L.length c ∧ ((L = [] ∧ (ao = none → c = 0)) ∨ ∃ b o, ao = some ⟨b, o, none⟩ ∧ RaisedAt W b o L) ∧ (∀ q ∈ L, ZR.Ok q) ∧ L.length ≤ maxLen := by
  obtain ⟨a0, len, cap, rfl⟩ := okWide_slice Try.underlying47 hval
  obtain ⟨fuel, hf⟩ := h
  rcases open_rows Try.underlying47 Try.underlying62 (hone_of (by kernel_rfl)) (by kernel_rfl) hf with hcs | ⟨a, len', cap', hcs, hm, hx⟩
  · simp [Value.cells] at hcs
    obtain ⟨rfl, rfl, rfl⟩ := hcs
    exact ⟨none, [], 0, rfl, .inl ⟨rfl, fun _ => rfl⟩, by simp, by simp⟩
  · simp [Value.cells] at hcs
    obtain ⟨rfl, rfl, rfl⟩ := hcs
    obtain ⟨L, hL, hp⟩ := rows_of (α := ZR) (len := len) (p := fun i q => (∀ c u, (zrCells q)[c]? = some u → W.cell? (a.add (i * 7 + c)) = some u) ∧ ZR.Ok q) (fun i hi => by
      obtain ⟨n, V, Y, hf⟩ := hx i hi
      obtain ⟨e0, t0⟩ := hf 0 _ rfl
      obtain ⟨e1, t1⟩ := hf 1 _ rfl
      obtain ⟨e2, t2⟩ := hf 2 _ rfl
      obtain ⟨e3, t3⟩ := hf 3 _ rfl
      obtain ⟨e4, t4⟩ := hf 4 _ rfl
      obtain ⟨e5, t5⟩ := hf 5 _ rfl
      obtain ⟨e6, t6⟩ := hf 6 _ rfl
      obtain ⟨x0, q0, _, m0⟩ := DataW.trod_string Try.underlying9 t0
      obtain ⟨x1, q1, _, m1⟩ := DataW.trod_string Try.underlying9 t1
      obtain ⟨x2, q2, _, m2⟩ := DataW.trod_string Try.underlying9 t2
      obtain ⟨x3, q3, _, m3⟩ := DataW.trod_string Try.underlying9 t3
      obtain ⟨x4, q4, _, m4⟩ := DataW.trod_int Try.underlying2 t4
      obtain ⟨x5, q5⟩ := Rm.trod_float Try.underlying60 t5
      obtain ⟨x6, q6, _, m6⟩ := DataW.trod_int Try.underlying2 t6
      simp only [List.cons.injEq, and_true] at q0 q1 q2 q3 q4 q5 q6
      rw [q0] at e0; rw [q1] at e1; rw [q2] at e2; rw [q3] at e3; rw [q4] at e4; rw [q5] at e5; rw [q6] at e6
      refine ⟨⟨x0, x1, x2, x3, x4, x5, x6⟩, ?_, ⟨Rm.wf64 m4, Rm.wf64 m6⟩⟩
      intro c u hu
      have hc : c < 7 := (List.getElem?_eq_some_iff.1 hu).1
      match c, hc, hu with
      | 0, _, hu => obtain rfl := Option.some.inj hu; exact e0
      | 1, _, hu => obtain rfl := Option.some.inj hu; exact e1
      | 2, _, hu => obtain rfl := Option.some.inj hu; exact e2
      | 3, _, hu => obtain rfl := Option.some.inj hu; exact e3
      | 4, _, hu => obtain rfl := Option.some.inj hu; exact e4
      | 5, _, hu => obtain rfl := Option.some.inj hu; exact e5
      | 6, _, hu => obtain rfl := Option.some.inj hu; exact e6)
    refine ⟨some a, L, cap, by rw [hL], ?_, fun q hq => ?_, by omega⟩
    · by_cases h0 : len = 0
      · left
        exact ⟨List.length_eq_zero_iff.1 (by omega), fun e => by cases e⟩
      · right
        obtain ⟨b, o, spot⟩ := a
        obtain ⟨h1, _⟩ := hp 0 L[0] (by simp)
        have hspot : spot = none := by
          have := h1 0 _ rfl
          simpa [Addr.add] using World.cell?_spot this
        subst hspot
        refine ⟨b, o, rfl, fun j k hk c u hu => ?_⟩
        have := (hp j k hk).1 c u hu
        rw [Addr.add_mid] at this
        rw [Nat.add_assoc]
        exact this
    · obtain ⟨j, hj, rfl⟩ := List.getElem_of_mem hq
      exact (hp j _ (by simp [hj])).2

end Go.Proofs.Qxb6605676a.Kz
