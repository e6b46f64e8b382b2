import Derived.Test.Qxb6605676aKz53
import Derived.Test.Qxb6605676aKz17
import Derived.Deep.RegionHeld3
import Derived.LoopN
namespace Go.Proofs.Qxb6605676a.Kz
set_option linter.unusedVariables false
set_option linter.unusedSimpArgs false
open Go.RowKit Go.Proofs.Qxb6605676a.Mp Go.Proofs.Qxb6605676a.Tm Go.Proofs.Qxb6605676a.En
/-- One row turned. -/
theorem rows_set {α : Type} {W : World} {b n k : Nat} {f : α → List Value} {L : List α} {x : α} (hk : k < L.length) (h1 : W.rangeAt b (k * n) (f x)) (h2 : ∀ j y, j ≠ k → L[j]? = some y → W.rangeAt b (j * n) (f y)) : RowsAt W b n f (L.set k x) := by
  intro j y hy
  by_cases e : j = k
  · subst e
    rw [List.getElem?_set_self hk] at hy
    obtain rfl := Option.some.inj hy
    exact h1
  · rw [List.getElem?_set_ne (by omega)] at hy
    exact h2 j y e hy
theorem en_set2 {V : World} {g m : Nat} {E : List EN} {e : EN} (h : RowsAt V g 4 enCells E) (ht : V.there g 0 (E.length * 4)) (hm : m < E.length) (he : E[m]? = some e) (a : Int) (s : ByteArray) : RowsAt (V.setCells g (m * 4 + 2) [.int .i64 a, .string s]) g 4 enCells (E.set m ⟨e.rule, e.sensor, a, s⟩) := by
  refine rows_set hm ?_ ?_
  · have hr := h m e he
    have h01 : V.rangeAt g (m * 4) [.int .i64 e.rule, .string e.sensor] := fun j v hv => hr j v (by
      match j, hv with
      | 0, hv => exact hv
      | 1, hv => exact hv)
    have k1 := World.rangeAt_setCells_apart h01 g (m * 4 + 2) [.int .i64 a, .string s] (.inr (.inl (by simp)))
    have k2 := World.rangeAt_setCells_same V g (m * 4 + 2) [.int .i64 a, .string s] (there_mono ht (by omega) (by simp; omega))
    intro j v hv
    match j, hv with
    | 0, hv => exact k1 0 v hv
    | 1, hv => exact k1 1 v hv
    | 2, hv => exact k2 0 v hv
    | 3, hv => exact k2 1 v hv
  · intro j y hj hy
    refine World.rangeAt_setCells_apart (h j y hy) _ _ _ (.inr ?_)
    rcases Nat.lt_or_ge j m with hlt | hge
    · left
      simp [enCells]
      omega
    · right
      simp
      omega
end Go.Proofs.Qxb6605676a.Kz
