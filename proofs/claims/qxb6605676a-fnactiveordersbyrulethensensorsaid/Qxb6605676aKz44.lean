import Derived.Test.Qxb6605676aKz43
import Derived.Shelf.SlSortCmp.WholeK
import Derived.Shelf.Small.Strs
import Derived.Shelf.Lay
import Derived.Ground.SlsfProg
import Derived.Ground.NamesProg
import Derived.LoopN
namespace Go.Proofs
open Go.Shelf Go.RowKit Go.Lib Go.Sort
shelf_lay_g SlLaysF0.n6 Slsf 6 at Try 63 as Try.sortAct
shelf_lay Lays.n106 Nm 106 at Try as Try.strCmp
end Go.Proofs
namespace Go.Proofs.Qxb6605676a.Kz
set_option linter.unusedVariables false
set_option linter.unusedSimpArgs false
open Go.Shelf Go.RowKit Go.Lib Go.Sort

theorem cb_refl : ∀ a : List UInt8, compareBytes a a = 0
  | [] => rfl
  | x :: a => by unfold compareBytes; simp [cb_refl a]
theorem cb_eq : ∀ a b : List UInt8, compareBytes a b = 0 → a = b
  | [], [], _ => rfl
  | [], _ :: _, h => by simp [compareBytes] at h
  | _ :: _, [], h => by simp [compareBytes] at h
  | x :: a, y :: b, h => by
    unfold compareBytes at h
    by_cases h1 : x < y
    · simp [h1] at h
    · by_cases h2 : y < x
      · simp [h1, h2] at h
      · simp [h1, h2] at h
        have e : x = y := UInt8.le_antisymm (UInt8.not_lt.1 h2) (UInt8.not_lt.1 h1)
        rw [e, cb_eq a b h]
theorem cb_anti : ∀ a b : List UInt8, compareBytes a b < 0 ↔ 0 < compareBytes b a
  | [], [] => by simp [compareBytes]
  | [], _ :: _ => by simp [compareBytes]
  | _ :: _, [] => by simp [compareBytes]
  | x :: a, y :: b => by
    unfold compareBytes
    by_cases h1 : x < y
    · have h2 : ¬ y < x := fun h => absurd (UInt8.lt_trans h1 h) (UInt8.lt_irrefl x)
      simp [h1, h2]
    · by_cases h2 : y < x
      · simp [h1, h2]
      · simp [h1, h2, cb_anti a b]
theorem cb_trans : ∀ a b c : List UInt8, compareBytes a b < 0 → compareBytes b c < 0 → compareBytes a c < 0
  | [], b, [], h1, h2 => by
    cases b with
    | nil => simp [compareBytes] at h1
    | cons => simp [compareBytes] at h2
  | [], _, _ :: _, _, _ => by simp [compareBytes]
  | _ :: _, [], _, h1, _ => by simp [compareBytes] at h1
  | _ :: _, _ :: _, [], _, h2 => by simp [compareBytes] at h2
  | x :: a, y :: b, z :: c, h1, h2 => by
    unfold compareBytes at h1 h2 ⊢
    by_cases xy : x < y
    · by_cases yz : y < z
      · rw [if_pos (UInt8.lt_trans xy yz)]; omega
      · by_cases zy : z < y
        · simp [yz, zy] at h2
        · have e : y = z := UInt8.le_antisymm (UInt8.not_lt.1 zy) (UInt8.not_lt.1 yz)
          rw [← e, if_pos xy]; omega
    · by_cases yx : y < x
      · simp [xy, yx] at h1
      · have e : x = y := UInt8.le_antisymm (UInt8.not_lt.1 yx) (UInt8.not_lt.1 xy)
        simp [xy, yx] at h1
        rw [e]
        by_cases yz : y < z
        · rw [if_pos yz]; omega
        · by_cases zy : z < y
          · simp [yz, zy] at h2
          · simp [yz, zy] at h2 ⊢
            exact cb_trans a b c h1 h2

/-- How Active's sort compares: by the rule's name, then by the sensor. -/
def cfA (x y : AcR) : Int := if compareBytes x.rule.data.toList y.rule.data.toList = 0 then compareBytes x.sensor.data.toList y.sensor.data.toList else compareBytes x.rule.data.toList y.rule.data.toList
theorem cfA_lt (x y : AcR) : ltOf cfA x y = true ↔ (compareBytes x.rule.data.toList y.rule.data.toList < 0 ∨ (x.rule.data.toList = y.rule.data.toList ∧ compareBytes x.sensor.data.toList y.sensor.data.toList < 0)) := by
  unfold ltOf cfA
  rw [decide_eq_true_iff]
  by_cases h : compareBytes x.rule.data.toList y.rule.data.toList = 0
  · rw [if_pos h]
    have e := cb_eq _ _ h
    constructor
    · intro h2; exact .inr ⟨e, h2⟩
    · rintro (h2 | ⟨_, h2⟩)
      · omega
      · exact h2
  · rw [if_neg h]
    constructor
    · intro h2; exact .inl h2
    · rintro (h2 | ⟨e, _⟩)
      · exact h2
      · rw [e, cb_refl] at h; exact absurd rfl h
/-- A list that is not less is greater or the same. -/
theorem cb_or (a b : List UInt8) (h : ¬ compareBytes a b < 0) : a = b ∨ compareBytes b a < 0 := by
  by_cases h0 : compareBytes a b = 0
  · exact .inl (cb_eq _ _ h0)
  · exact .inr ((cb_anti b a).2 (by omega))
theorem swoA : SWO (ltOf cfA) where
  irrefl x := by
    cases h : ltOf cfA x x with
    | false => rfl
    | true =>
      rcases (cfA_lt x x).1 h with h | ⟨_, h⟩ <;> rw [cb_refl] at h <;> omega
  trans x y z h1 h2 := by
    rw [cfA_lt] at *
    rcases h1 with h1 | ⟨e1, h1⟩
    · rcases h2 with h2 | ⟨e2, h2⟩
      · exact .inl (cb_trans _ _ _ h1 h2)
      · left; rw [← e2]; exact h1
    · rcases h2 with h2 | ⟨e2, h2⟩
      · left; rw [e1]; exact h2
      · exact .inr ⟨e1.trans e2, cb_trans _ _ _ h1 h2⟩
  ntrans x y z h1 h2 := by
    have key : ∀ x y : AcR, ltOf cfA x y = false → (compareBytes y.rule.data.toList x.rule.data.toList < 0 ∨ (y.rule.data.toList = x.rule.data.toList ∧ (y.sensor.data.toList = x.sensor.data.toList ∨ compareBytes y.sensor.data.toList x.sensor.data.toList < 0))) := by
      intro x y h
      have hn : ¬ (compareBytes x.rule.data.toList y.rule.data.toList < 0 ∨ (x.rule.data.toList = y.rule.data.toList ∧ compareBytes x.sensor.data.toList y.sensor.data.toList < 0)) := by
        rw [← cfA_lt, h]; simp
      rcases cb_or x.rule.data.toList y.rule.data.toList (fun hh => hn (.inl hh)) with e | hh
      · right
        refine ⟨e.symm, ?_⟩
        rcases cb_or x.sensor.data.toList y.sensor.data.toList (fun hh => hn (.inr ⟨e, hh⟩)) with e2 | hh
        · exact .inl e2.symm
        · exact .inr hh
      · exact .inl hh
    cases hxz : ltOf cfA x z with
    | false => rfl
    | true =>
      exfalso
      have hxz := (cfA_lt x z).1 hxz
      have k1 := key x y h1
      have k2 := key y z h2
      have irr : ∀ a : List UInt8, ¬ compareBytes a a < 0 := fun a h => by rw [cb_refl] at h; omega
      -- z ≤ y ≤ x, x < z
      have k3 : compareBytes z.rule.data.toList x.rule.data.toList < 0 ∨ (z.rule.data.toList = x.rule.data.toList ∧ (z.sensor.data.toList = x.sensor.data.toList ∨ compareBytes z.sensor.data.toList x.sensor.data.toList < 0)) := by
        rcases k2 with k2 | ⟨e2, k2⟩
        · rcases k1 with k1 | ⟨e1, _⟩
          · exact .inl (cb_trans _ _ _ k2 k1)
          · left; rw [← e1]; exact k2
        · rcases k1 with k1 | ⟨e1, k1⟩
          · left; rw [e2]; exact k1
          · right
            refine ⟨e2.trans e1, ?_⟩
            rcases k2 with s2 | k2
            · rcases k1 with s1 | k1
              · exact .inl (s2.trans s1)
              · right; rw [s2]; exact k1
            · rcases k1 with s1 | k1
              · right; rw [← s1]; exact k2
              · exact .inr (cb_trans _ _ _ k2 k1)
      rcases hxz with hr | ⟨er, hs⟩
      · rcases k3 with k3 | ⟨e3, _⟩
        · exact irr _ (cb_trans _ _ _ hr k3)
        · rw [e3] at hr; exact irr _ hr
      · rcases k3 with k3 | ⟨e3, k3 | k3⟩
        · rw [er] at k3; exact irr _ k3
        · rw [k3] at hs; exact irr _ hs
        · exact irr _ (cb_trans _ _ _ hs k3)
end Go.Proofs.Qxb6605676a.Kz
