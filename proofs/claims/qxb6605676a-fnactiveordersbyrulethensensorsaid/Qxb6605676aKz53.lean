import Derived.Test.Qxb6605676aKz52
import Derived.Test.Qxb6605676aKz27
import Derived.Test.Qxb6605676aKz11
namespace Go.Proofs.Qxb6605676a.Kz
set_option linter.unusedVariables false
set_option linter.unusedSimpArgs false
open Go.RowKit Go.Proofs.Qxb6605676a.Mp Go.Proofs.Qxb6605676a.Tm Go.Proofs.Qxb6605676a.En
noncomputable def body61a : Code := ((loopsOf (Try.f61.body.getD .skip))[0]?).getD .skip
noncomputable def body61b : Code := ((loopsOf (Try.f61.body.getD .skip))[1]?).getD .skip
noncomputable def body61c : Code := ((loopsOf (Try.f61.body.getD .skip))[2]?).getD .skip
theorem enR {W : World} {b p : Nat} {e : EN} (h : W.rangeAt b p (enCells e)) : W.cell? ⟨b, p, none⟩ = some (.int .i64 e.rule) ∧ W.cell? ⟨b, p + 1, none⟩ = some (.string e.sensor) ∧ W.cell? ⟨b, p + 2, none⟩ = some (.int .i64 e.src) ∧ W.cell? ⟨b, p + 3, none⟩ = some (.string e.sev) :=
  ⟨by simpa using h 0 _ rfl, h 1 _ rfl, h 2 _ rfl, h 3 _ rfl⟩
theorem enOne (e : EN) : ∀ u ∈ enCells e, u.oneCell' = true := by
  have h : (enCells e).all (·.oneCell') = true := by simp [enCells, Value.oneCell']
  intro u hu
  exact List.all_eq_true.1 h u hu
theorem en_new (W : World) (e : EN) : ∀ j u, (enCells e)[j]? = some u → (W.alloc (.cells (enCells e).toArray 148)).cell? ((⟨W.heap.size, 0, none⟩ : Addr).add j) = some u := by
  intro j u hu
  have e : (⟨W.heap.size, 0, none⟩ : Addr).add j = ⟨W.heap.size, j, none⟩ := by simp [Addr.add]; intro h; exact h.symm
  rw [e]
  unfold World.cell?
  rw [heap_alloc_new]
  simpa using hu
theorem info148' : ∃ i z, Try.prog.info? 148 = some i ∧ i.zero = some z ∧ i.size = 4 ∧ i.bytes = 48 ∧ z.cells.size = 4 := by
  have h : (Try.prog.info? 148).any (fun i => i.size == 4 && i.bytes == 48 && i.zero.any (fun z => z.cells.size == 4)) = true := by kernel_rfl
  cases hj : Try.prog.info? 148 with
  | none => rw [hj] at h; cases h
  | some i =>
    rw [hj] at h
    cases hz : i.zero with
    | none => simp [hz] at h
    | some z =>
      simp [hz] at h
      exact ⟨i, z, rfl, hz, h.1.1, h.1.2, h.2⟩
theorem flatMap_at4 {α : Type} {f : α → List Value} {n : Nat} (hf : ∀ x, (f x).length = n) : ∀ (L : List α) (j : Nat) (x : α), L[j]? = some x → ∀ c v, (f x)[c]? = some v → (L.flatMap f)[j * n + c]? = some v
  | [], j, x, h, _, _, _ => by simp at h
  | y :: L, 0, x, h, c, v, hv => by
    simp at h
    subst h
    have hc : c < (f y).length := (List.getElem?_eq_some_iff.1 hv).1
    rw [List.flatMap_cons, Nat.zero_mul, Nat.zero_add, List.getElem?_append_left hc]
    exact hv
  | y :: L, j + 1, x, h, c, v, hv => by
    simp at h
    rw [List.flatMap_cons, List.getElem?_append_right (by rw [hf, Nat.succ_mul]; omega), hf, Nat.succ_mul]
    have := flatMap_at4 hf L j x h c v hv
    rw [show j * n + n + c - n = j * n + c by omega]
    exact this

theorem own_rows4 {α : Type} {f : α → List Value} {n base : Nat} {e : TypeId} {v : Value} {w : World} (hf : ∀ x, (f x).length = n) (L : List α) (h : w.ownsRow base e n v L.length (L.flatMap f)) :
    ∃ la lc, v = .slice la L.length lc ∧ (L = [] ∨ ∃ g, la = some ⟨g, 0, none⟩ ∧ RowsAt w g n f L) := by
  rcases h.2 with ⟨rfl, h0⟩ | ⟨g, cap, cur, rfl, _, hg, _, _, _, ht⟩
  · have hL : L = [] := List.length_eq_zero_iff.1 h0
    subst hL
    exact ⟨none, 0, rfl, .inl rfl⟩
  · refine ⟨some ⟨g, 0, none⟩, cap, rfl, .inr ⟨g, rfl, ?_⟩⟩
    intro j x hx c u hu
    have h1 := flatMap_at4 hf L j x hx c u hu
    rw [← ht] at h1
    have hlt : j * n + c < L.length * n := by
      have := (List.getElem?_eq_some_iff.1 h1).1
      simp at this
      omega
    rw [List.getElem?_take_of_lt hlt] at h1
    unfold World.cell?
    rw [hg]
    simpa using h1
end Go.Proofs.Qxb6605676a.Kz
