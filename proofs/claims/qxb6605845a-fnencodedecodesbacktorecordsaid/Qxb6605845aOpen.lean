import Derived.Test.Qxb6605845aRows
import Derived.Test.Qxb6605845aS16
import Derived.WalkKit
import Derived.ProofKit
import Derived.OpenShut
import Derived.Deep.Strs
import Derived.Deep.Matrix
import Derived.ChangeSlices
import Derived.Deep.MidRow
namespace Go.Proofs.Qxb6605845a.Ec
set_option linter.unusedVariables false
set_option linter.unusedSimpArgs false
open Go.RowKit Go.ChangeShapes Go.WideShapes Go.Deep Go.Deep

theorem cells9 : Try.prog.cellsOf 9 = 1 := by kernel_rfl
theorem cells3 : Try.prog.cellsOf 3 = 1 := by kernel_rfl
theorem cells33 : Try.prog.cellsOf 33 = 1 := by kernel_rfl
theorem cells5 : Try.prog.cellsOf 5 = 1 := by kernel_rfl

set_option maxRecDepth 100000 in
theorem argS {H : Type} {enc : TypeId × Value → H} {W : World} {base : Nat} {r : Reach} {v : Value} {d : DataW H} {ps : List MemPlace} (hval : Value.okWide Try.prog W r base 22 v) (h : DataW.Trod enc Try.prog W 0 (fun _ => true) true 22 v d ps) :
    ∃ (ao : Option Addr) (L : List ByteArray) (c : Nat), v = .slice ao L.length c ∧ SArg W ao L ∧ (ao = none → c = 0) ∧ L.length ≤ maxLen := by
  obtain ⟨a0, len, cap, rfl⟩ := okWide_slice Try.underlying22 hval
  obtain ⟨fuel, hf⟩ := h
  rcases open_strs Try.underlying22 Try.underlying9 cells9 hf with ⟨hcs, hx⟩ | ⟨a, len', cap', m, Sx, hcs, _, hl, hm, hmm, hx, hcell⟩
  · simp [Value.cells] at hcs
    obtain ⟨rfl, rfl, rfl⟩ := hcs
    exact ⟨none, [], 0, rfl, .inl rfl, fun _ => rfl, by simp⟩
  · simp [Value.cells] at hcs
    obtain ⟨rfl, rfl, rfl⟩ := hcs
    simp only [if_true] at hmm
    subst hmm
    refine ⟨some a, (List.range len).map Sx, m, by simp, ?_, (fun e => by cases e), by simp; omega⟩
    by_cases h0 : len = 0
    · subst h0; exact .inl rfl
    · right
      obtain ⟨b, o, spot⟩ := a
      have hspot : spot = none := by simpa [Addr.add] using World.cell?_spot (hcell 0 (by omega)).1
      subst hspot
      refine ⟨b, o, rfl, ?_⟩
      intro j s hs
      rw [List.getElem?_map] at hs
      have hj : j < len := by
        rcases Nat.lt_or_ge j len with h | h
        · exact h
        · rw [List.getElem?_eq_none (by simpa using h)] at hs; cases hs
      rw [List.getElem?_range hj] at hs
      simp at hs
      subst hs
      have := (hcell j (by omega)).1
      rwa [Addr.add_mid] at this

set_option maxRecDepth 100000 in
theorem argI {H : Type} {enc : TypeId × Value → H} {W : World} {base : Nat} {r : Reach} {v : Value} {d : DataW H} {ps : List MemPlace} (hval : Value.okWide Try.prog W r base 30 v) (h : DataW.Trod enc Try.prog W 0 (fun _ => true) true 30 v d ps) :
    ∃ (ao : Option Addr) (L : List Int) (c : Nat), v = .slice ao L.length c ∧ IArg W ao L ∧ (ao = none → c = 0) ∧ L.length ≤ maxLen := by
  obtain ⟨a0, len, cap, rfl⟩ := okWide_slice Try.underlying30 hval
  obtain ⟨fuel, hf⟩ := h
  rcases open_ints Try.underlying30 Try.underlying3 cells3 hf with ⟨hcs, hx⟩ | ⟨a, len', cap', zs, hcs, _, hl, hm, hz, hx, hcell, hwz⟩
  · simp [Value.cells] at hcs
    obtain ⟨rfl, rfl, rfl⟩ := hcs
    exact ⟨none, [], 0, rfl, .inl rfl, fun _ => rfl, by simp⟩
  · simp [Value.cells] at hcs
    obtain ⟨rfl, rfl, rfl⟩ := hcs
    simp only [if_true] at hz
    have hlen : (zs.take len).length = len := by simp; omega
    refine ⟨some a, zs.take len, cap, by rw [hlen], ?_, (fun e => by cases e), by rw [hlen]; omega⟩
    by_cases h0 : len = 0
    · subst h0; exact .inl rfl
    · right
      obtain ⟨b, o, spot⟩ := a
      have hspot : spot = none := by simpa [Addr.add] using World.cell?_spot (hcell 0 (by omega))
      subst hspot
      refine ⟨b, o, rfl, ?_⟩
      intro j s hs
      have hj : j < len := by
        have := (List.getElem?_eq_some_iff.1 hs).1
        omega
      rw [List.getElem?_take_of_lt hj] at hs
      have := hcell j (by omega)
      rw [Addr.add_mid, List.getD_eq_getElem?_getD, hs] at this
      exact this

theorem argB {W : World} {A : Option Addr} {L C : Nat} {Z : List Int} (hL : L ≤ C) (hZ : Z.length = C) (hw : ∀ n ∈ Z, (Lit.int .u8 n).wf = true) (hn : A = none → C = 0)
    (hc : ∀ a', A = some a' → ∀ c, c < C → W.cell? (a'.add c) = some (.int .u8 (Z.getD c 0))) : ∃ x, BArg W (.slice A L C) x := by
  cases A with
  | none =>
    obtain rfl := hn rfl
    obtain rfl : L = 0 := by omega
    exact ⟨none, .nil⟩
  | some a =>
    by_cases h0 : L = 0
    · subst h0; exact ⟨_, .emp a C⟩
    · obtain ⟨b, o, spot⟩ := a
      have hspot : spot = none := by simpa [Addr.add] using World.cell?_spot (hc _ rfl 0 (by omega))
      subst hspot
      refine ⟨some ((Z.take L).map fun z => z.toNat.toUInt8), ?_⟩
      have hlen : ((Z.take L).map fun z => z.toNat.toUInt8).length = L := by simp; omega
      have hrow : BytesAt W b o ((Z.take L).map fun z => z.toNat.toUInt8) := by
        intro j x hx
        have hj : j < L := by
          have := (List.getElem?_eq_some_iff.1 hx).1
          omega
        rw [List.getElem?_map, List.getElem?_take_of_lt hj] at hx
        obtain ⟨z, hz, rfl⟩ := Option.map_eq_some_iff.1 hx
        have h1 := hc _ rfl j (by omega)
        rw [Addr.add_mid, List.getD_eq_getElem?_getD, hz] at h1
        have h2 := hw z (List.mem_of_getElem? hz)
        have h3 : 0 ≤ z ∧ z ≤ 255 := by
          have h5 : IntKind.u8.min ≤ z ∧ z ≤ IntKind.u8.max := by simpa [Lit.wf] using h2
          have e1 : IntKind.u8.min = 0 := rfl
          have e2 : IntKind.u8.max = 255 := rfl
          rw [e1, e2] at h5
          exact h5
        have h4 : ((z.toNat.toUInt8).toNat : Int) = z := by
          have : z.toNat.toUInt8.toNat = z.toNat := by simp; omega
          rw [this]; omega
        rw [h4]
        exact h1
      have := BArg.row b o _ C hrow
      rwa [hlen] at this

set_option maxRecDepth 100000 in
theorem argV {H : Type} {enc : TypeId × Value → H} {W : World} {base : Nat} {r : Reach} {v : Value} {d : DataW H} {ps : List MemPlace} (hval : Value.okWide Try.prog W r base 23 v) (h : DataW.Trod enc Try.prog W 0 (fun _ => true) true 23 v d ps) :
    ∃ (ao : Option Addr) (L : List (Option (List UInt8))) (c : Nat), v = .slice ao L.length c ∧ VArg W ao L ∧ (ao = none → c = 0) ∧ L.length ≤ maxLen := by
  obtain ⟨a0, len, cap, rfl⟩ := okWide_slice Try.underlying23 hval
  obtain ⟨fuel, hf⟩ := h
  rcases open_int_rows Try.underlying23 Try.underlying33 Try.underlying5 cells33 cells5 hf with ⟨hcs, hx⟩ | ⟨a, len', cap', A, L, C, Z, hcs, _, hl, hm, hx, hcell⟩
  · simp [Value.cells] at hcs
    obtain ⟨rfl, rfl, rfl⟩ := hcs
    exact ⟨none, [], 0, rfl, .inl rfl, fun _ => rfl, by simp⟩
  · simp [Value.cells] at hcs
    obtain ⟨rfl, rfl, rfl⟩ := hcs
    have hX : ∀ r, ∃ x, r < cap → BArg W (.slice (A r) (L r) (C r)) x := fun r => by
      by_cases hr : r < cap
      · obtain ⟨_, h1, _, h2, h3, h4, h5⟩ := hcell r hr
        obtain ⟨x, hx⟩ := argB (W := W) h1 h2 h3 h4 (fun a' e => (h5 a' e).2)
        exact ⟨x, fun _ => hx⟩
      · exact ⟨none, fun h => absurd h hr⟩
    refine ⟨some a, (List.range len).map (fun r => Classical.choose (hX r)), cap, by simp, ?_, (fun e => by cases e), by simp; omega⟩
    by_cases h0 : len = 0
    · subst h0; exact .inl rfl
    · right
      obtain ⟨b, o, spot⟩ := a
      have hspot : spot = none := by simpa [Addr.add] using World.cell?_spot (hcell 0 (by omega)).1
      subst hspot
      refine ⟨b, o, rfl, ?_⟩
      intro j s hs
      rw [List.getElem?_map] at hs
      have hj : j < len := by
        rcases Nat.lt_or_ge j len with h | h
        · exact h
        · rw [List.getElem?_eq_none (by simpa using h)] at hs; cases hs
      rw [List.getElem?_range hj] at hs
      simp at hs
      subst hs
      have h1 := (hcell j (by omega)).1
      rw [Addr.add_mid] at h1
      exact ⟨_, h1, Classical.choose_spec (hX j) (by omega)⟩
end Go.Proofs.Qxb6605845a.Ec
