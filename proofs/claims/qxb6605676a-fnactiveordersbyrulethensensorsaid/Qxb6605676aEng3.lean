import Derived.Test.Qxb6605676aEng2
import Derived.Deep.RegionHeld3
namespace Go.Proofs.Qxb6605676a.En
set_option linter.unusedVariables false
set_option linter.unusedSimpArgs false
open Go.RowKit Go.Proofs.Qxb6605676a.Mp Go.Proofs.Qxb6605676a.Tm
open Go.ChangeMaps (setBlock heap_setBlock_same)

theorem heap_alloc_some (w : World) (o : Obj) (k : Nat) (h : (w.heap[k]?).isSome = true) : (w.alloc o).heap[k]? = w.heap[k]? := by
  have hk : k < w.heap.size := by
    rcases Nat.lt_or_ge k w.heap.size with h' | h'
    · exact h'
    · rw [Array.getElem?_eq_none h'] at h; cases h
  exact Below.heap_alloc w o k hk
theorem below_cell_some {W w1 : World} (hb : Below W.heap.size W w1) (a : Addr) (h : (W.cell? a).isSome = true) : w1.cell? a = W.cell? a := by
  obtain ⟨u, hu⟩ := Option.isSome_iff_exists.1 h
  exact hb.cell (World.block_lt_of_cell? W a hu)
theorem heap_drew (w : World) (k : Nat) : w.drew.heap[k]? = w.heap[k]? := rfl
def isMapO : Option Obj → Bool
  | some (.map _ _) => true
  | _ => false
theorem isMapO_map (es : Array MapEntry) (c : Nat) : isMapO (some (.map es c)) = true := rfl
theorem heap_setCell_map (w : World) (a : Addr) (v : Value) (k : Nat) (h : isMapO (w.heap[k]?) = true) : (w.setCell a v).heap[k]? = w.heap[k]? := by
  by_cases hk : k = a.block
  · subst hk
    simp only [World.setCell, Array.getElem?_modify, if_true]
    cases hh : w.heap[a.block]? with
    | none => rfl
    | some o =>
      rw [hh] at h
      cases o <;> first | rfl | cases h
  · exact Below.heap_setCell w a v k hk

end Go.Proofs.Qxb6605676a.En
