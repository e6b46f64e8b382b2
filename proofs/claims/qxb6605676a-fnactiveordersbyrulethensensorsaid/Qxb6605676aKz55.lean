import Derived.Test.Qxb6605676aKz54
import Derived.Test.Qxb6605676aKz45
namespace Go.Proofs.Qxb6605676a.Kz
set_option linter.unusedVariables false
set_option linter.unusedSimpArgs false
open Go.RowKit Go.Lib Go.Shelf
open Go.Sort hiding Below

/-! ### The insertion sort of the law's own model (no Go) -/
def toA (R : List RuleD) (x : EN) : AcR := ⟨(R.getD x.rule noR).name, x.sev, ⟨#[]⟩, 0, 0, x.sensor, ⟨#[]⟩, 0⟩
theorem enLess_eq (R : List RuleD) (x y : EN) : enLess R x y = ltOf cfA (toA R x) (toA R y) := by
  unfold enLess ltOf cfA toA
  generalize (R.getD x.rule noR).name = n1
  generalize (R.getD y.rule noR).name = n2
  by_cases h : n1 = n2
  · subst h
    simp [cb_refl]
  · have h1 : ¬ n1.toList = n2.toList := fun e => h ((Mp.bytes_eq_iff _ _).1 e)
    have h2 : ¬ compareBytes n1.data.toList n2.data.toList = 0 := fun e => h (by
      have := cb_eq _ _ e
      cases n1; cases n2
      simp at this
      rw [this])
    simp [h1, h2]
/-- The first k are sorted. -/
def SortedTo (R : List RuleD) (k : Nat) (E : List EN) : Prop := ∀ i j x y, i < j → j < k → E[i]? = some x → E[j]? = some y → enLess R y x = false
/-- The one at b is on its way down. -/
structure MidS (R : List RuleD) (a b : Nat) (E : List EN) : Prop where
  rest : ∀ i j x y, i < j → j ≤ a → i ≠ b → j ≠ b → E[i]? = some x → E[j]? = some y → enLess R y x = false
  over : ∀ j x y, b < j → j ≤ a → E[b]? = some x → E[j]? = some y → enLess R x y = true
theorem en_asym (R : List RuleD) (x y : EN) (h : enLess R x y = true) : enLess R y x = false := by
  rw [enLess_eq] at *
  cases hc : ltOf cfA (toA R y) (toA R x) with
  | false => rfl
  | true =>
    have := swoA.trans _ _ _ h hc
    rw [swoA.irrefl] at this
    cases this
theorem en_ntrans (R : List RuleD) (x y z : EN) (h1 : enLess R x y = false) (h2 : enLess R y z = false) : enLess R x z = false := by
  rw [enLess_eq] at *
  exact swoA.ntrans _ _ _ h1 h2
theorem mid_start {R : List RuleD} {a : Nat} {E : List EN} (h : SortedTo R a E) : MidS R a a E :=
  ⟨fun i j x y hij hja _ hj hx hy => h i j x y hij (by omega) hx hy, fun j x y hj hja _ _ => by omega⟩
theorem mid_end {R : List RuleD} {a b : Nat} {E : List EN} (h : MidS R a b E) (hx : b = 0 ∨ ∀ x y, E[b]? = some x → E[b - 1]? = some y → enLess R x y = false) : SortedTo R (a + 1) E := by
  intro i j x y hij hja hx1 hy1
  by_cases hi : i = b
  · subst hi
    exact en_asym R _ _ (h.over j x y hij (by omega) hx1 hy1)
  · by_cases hj : j = b
    · subst hj
      rcases hx with rfl | hx
      · omega
      · by_cases hi1 : i = j - 1
        · subst hi1
          exact hx y x hy1 hx1
        · have hjl : j < E.length := (List.getElem?_eq_some_iff.1 hy1).1
          have hz : E[j - 1]? = some (E[j - 1]'(by omega)) := List.getElem?_eq_getElem (by omega)
          exact en_ntrans R _ _ _ (hx y _ hy1 hz) (h.rest i (j - 1) x _ (by omega) (by omega) hi (by omega) hx1 hz)
    · exact h.rest i j x y hij (by omega) hi hj hx1 hy1
/-- Two neighbours changed. -/
def swapAt (E : List EN) (b : Nat) (x y : EN) : List EN := (E.set b y).set (b - 1) x
theorem swap_get {E : List EN} {b : Nat} {x y : EN} (hb : 0 < b) (hbl : b < E.length) (i : Nat) : (swapAt E b x y)[i]? = if i = b - 1 then some x else if i = b then some y else E[i]? := by
  unfold swapAt
  rw [List.getElem?_set, List.getElem?_set]
  by_cases h1 : i = b - 1
  · rw [if_pos h1.symm, if_pos (by simp; omega), if_pos h1]
  · by_cases h2 : i = b
    · rw [if_neg (by omega), if_pos h2.symm, if_pos hbl, if_neg h1, if_pos h2]
    · rw [if_neg (by omega), if_neg (by omega), if_neg h1, if_neg h2]
theorem mid_swap {R : List RuleD} {a b : Nat} {E : List EN} {x y : EN} (h : MidS R a b E) (hb : 0 < b) (hba : b ≤ a) (hbl : b < E.length) (hx : E[b]? = some x) (hy : E[b - 1]? = some y) (hl : enLess R x y = true) : MidS R a (b - 1) (swapAt E b x y) := by
  constructor
  · intro i j u v hij hja hi hj hu hv
    rw [swap_get hb hbl] at hu hv
    rw [if_neg hi] at hu
    rw [if_neg hj] at hv
    by_cases hib : i = b
    · rw [if_pos hib] at hu
      obtain rfl := Option.some.inj hu
      rw [if_neg (by omega)] at hv
      exact h.rest (b - 1) j _ _ (by omega) hja (by omega) (by omega) hy hv
    · rw [if_neg hib] at hu
      by_cases hjb : j = b
      · rw [if_pos hjb] at hv
        obtain rfl := Option.some.inj hv
        exact h.rest i (b - 1) _ _ (by omega) (by omega) hib (by omega) hu hy
      · rw [if_neg hjb] at hv
        exact h.rest i j _ _ hij hja hib hjb hu hv
  · intro j u v hj hja hu hv
    rw [swap_get hb hbl] at hu hv
    rw [if_pos rfl] at hu
    obtain rfl := Option.some.inj hu
    rw [if_neg (by omega)] at hv
    by_cases hjb : j = b
    · rw [if_pos hjb] at hv
      obtain rfl := Option.some.inj hv
      exact hl
    · rw [if_neg hjb] at hv
      exact h.over j _ _ (by omega) hja hx hv
theorem swap_perm {E : List EN} {b : Nat} {x y : EN} (hb : 0 < b) (hbl : b < E.length) (hx : E[b]? = some x) (hy : E[b - 1]? = some y) : (swapAt E b x y).Perm E := by
  obtain ⟨c, rfl⟩ : ∃ c, b = c + 1 := ⟨b - 1, by omega⟩
  have hcl : c < E.length := by omega
  simp only [Nat.add_sub_cancel] at hy
  have e1 : E = E.take c ++ (y :: x :: E.drop (c + 2)) := by
    conv => lhs; rw [← List.take_append_drop c E]
    rw [List.drop_eq_getElem_cons hcl, List.drop_eq_getElem_cons hbl]
    rw [List.getElem?_eq_getElem hcl] at hy
    rw [List.getElem?_eq_getElem hbl] at hx
    rw [Option.some.inj hy, Option.some.inj hx]
  have e2 : swapAt E (c + 1) x y = E.take c ++ (x :: y :: E.drop (c + 2)) := by
    apply List.ext_getElem?
    intro i
    rw [swap_get hb hbl]
    have hlen : (E.take c).length = c := by simp; omega
    rcases Nat.lt_or_ge i c with h | h
    · rw [if_neg (by omega), if_neg (by omega), List.getElem?_append_left (by omega), List.getElem?_take_of_lt h]
    · rw [List.getElem?_append_right (by omega), hlen]
      by_cases h1 : i = c
      · subst h1; simp
      · by_cases h2 : i = c + 1
        · subst h2; simp
        · rw [if_neg (by omega), if_neg h2]
          obtain ⟨d, rfl⟩ : ∃ d, i = c + 2 + d := ⟨i - (c + 2), by omega⟩
          rw [show c + 2 + d - c = d + 2 by omega]
          simp [List.getElem?_drop]
  rw [e2]
  conv => rhs; rw [e1]
  exact List.Perm.append_left _ (List.Perm.swap _ _ _)
theorem swap_len (E : List EN) (b : Nat) (x y : EN) : (swapAt E b x y).length = E.length := by simp [swapAt]
end Go.Proofs.Qxb6605676a.Kz
