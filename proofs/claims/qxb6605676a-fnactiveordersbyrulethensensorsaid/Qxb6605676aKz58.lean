import Derived.Test.Qxb6605676aKz55
import Derived.Test.Qxb6605676aKz41
namespace Go.Proofs.Qxb6605676a.Kz
set_option linter.unusedVariables false
set_option linter.unusedSimpArgs false
open Go.RowKit Go.Lib Go.Shelf Go.Proofs.Qxb6605676a.Mp
open Go.Sort hiding Below

/-! ### What the law's own model lists (no Go) -/
/-- Does the key state q stand at the lowest level of rule i? -/
def stands (R : List RuleD) (q : ZK) : Option Nat := if q.state.toList == okB.toList then none else if (mtc R q.rule q.metric q.sev).1 < 0 then none else if (mtc R q.rule q.metric q.sev).2 = 0 then some (mtc R q.rule q.metric q.sev).1.toNat else none
def modStep (R : List RuleD) (E : List EN) (q : ZK) : List EN := match stands R q with
  | none => E
  | some i => if (E.any fun e => (e.rule == i && e.sensor.toList == q.sensor.toList)) then E else E ++ [⟨i, q.sensor, 0, ⟨#[]⟩⟩]
def modL (R : List RuleD) (K : List ZK) : List EN := K.foldl (modStep R) []
theorem modL_snoc (R : List RuleD) (K : List ZK) (q : ZK) : modL R (K ++ [q]) = modStep R (modL R K) q := by
  unfold modL; rw [List.foldl_append]; rfl

/-- Each entry comes from a key state that stands; each key state that stands has its entry; no entry twice. -/
structure ModOk (R : List RuleD) (K : List ZK) (E : List EN) : Prop where
  back : ∀ e ∈ E, ∃ q ∈ K, stands R q = some e.rule ∧ q.sensor = e.sensor
  forth : ∀ q ∈ K, ∀ i, stands R q = some i → ∃ e ∈ E, e.rule = i ∧ e.sensor = q.sensor
  once : E.Pairwise fun x y => ¬ (x.rule = y.rule ∧ x.sensor = y.sensor)
theorem modL_ok (R : List RuleD) (K : List ZK) : ModOk R K (modL R K) := by
  suffices h : ∀ n, n ≤ K.length → ModOk R (K.take n) (modL R (K.take n)) by
    have := h K.length (Nat.le_refl _)
    rwa [List.take_length] at this
  intro n
  induction n with
  | zero => intro _; exact ⟨by simp [modL], by simp, by simp [modL]⟩
  | succ n ih =>
    intro hn
    have ih := ih (by omega)
    rw [List.take_succ_eq_append_getElem (by omega), modL_snoc]
    generalize K.take n = K' at *
    generalize K[n] = q at *
    generalize modL R K' = E at *
    unfold modStep
    cases hs : stands R q with
    | none =>
      simp only
      refine ⟨fun e he => ?_, fun q' hq' i hi => ?_, ih.once⟩
      · obtain ⟨q', h1, h2⟩ := ih.back e he
        exact ⟨q', List.mem_append_left _ h1, h2⟩
      · rcases List.mem_append.1 hq' with h | h
        · exact ih.forth q' h i hi
        · simp at h; subst h; rw [hs] at hi; cases hi
    | some i =>
      simp only
      by_cases ha : (E.any fun e => (e.rule == i && e.sensor.toList == q.sensor.toList)) = true
      · rw [if_pos ha]
        obtain ⟨e0, he0, hm⟩ := List.any_eq_true.1 ha
        simp only [Bool.and_eq_true, beq_iff_eq] at hm
        refine ⟨fun e he => ?_, fun q' hq' i' hi => ?_, ih.once⟩
        · obtain ⟨q', h1, h2⟩ := ih.back e he
          exact ⟨q', List.mem_append_left _ h1, h2⟩
        · rcases List.mem_append.1 hq' with h | h
          · exact ih.forth q' h i' hi
          · simp at h; subst h
            rw [hs] at hi
            obtain rfl := Option.some.inj hi
            exact ⟨e0, he0, hm.1, (bytes_eq_iff _ _).1 hm.2⟩
      · rw [if_neg ha]
        refine ⟨fun e he => ?_, fun q' hq' i' hi => ?_, ?_⟩
        · rcases List.mem_append.1 he with h | h
          · obtain ⟨q', h1, h2⟩ := ih.back e h
            exact ⟨q', List.mem_append_left _ h1, h2⟩
          · simp at h; subst h
            exact ⟨q, List.mem_append_right _ (by simp), hs, rfl⟩
        · rcases List.mem_append.1 hq' with h | h
          · obtain ⟨e, h1, h2⟩ := ih.forth q' h i' hi
            exact ⟨e, List.mem_append_left _ h1, h2⟩
          · simp at h; subst h
            rw [hs] at hi
            obtain rfl := Option.some.inj hi
            exact ⟨_, List.mem_append_right _ (List.mem_singleton.2 rfl), rfl, rfl⟩
        · refine List.pairwise_append.2 ⟨ih.once, by simp, fun x hx y hy => ?_⟩
          simp at hy
          subst hy
          rintro ⟨h1, h2⟩
          exact ha (List.any_eq_true.2 ⟨x, hx, by simp [h1, h2]⟩)

/-- Two lists that are sorted, strictly, and hold the same: they are one. -/
theorem sorted_unique {α : Type} (lt : α → α → Bool) (hasym : ∀ x y, lt x y = true → lt y x = false) : ∀ (A B : List α), A.Perm B → A.Pairwise (fun x y => lt x y = true) → B.Pairwise (fun x y => lt x y = true) → A = B
  | [], B, h, _, _ => by
    have := h.length_eq
    exact (List.length_eq_zero_iff.1 (by simpa using this.symm)).symm
  | a :: A, [], h, _, _ => by have := h.length_eq; simp at this
  | a :: A, b :: B, h, hA, hB => by
    obtain ⟨hA1, hA2⟩ := List.pairwise_cons.1 hA
    obtain ⟨hB1, hB2⟩ := List.pairwise_cons.1 hB
    have hab : a = b := by
      have ha : a ∈ b :: B := h.mem_iff.1 List.mem_cons_self
      have hb : b ∈ a :: A := h.mem_iff.2 List.mem_cons_self
      rcases List.mem_cons.1 ha with h1 | h1
      · exact h1
      · rcases List.mem_cons.1 hb with h2 | h2
        · exact h2.symm
        · have x1 := hB1 a h1
          have x2 := hA1 b h2
          rw [hasym _ _ x1] at x2
          cases x2
    subst hab
    rw [sorted_unique lt hasym A B (List.Perm.cons_inv h) hA2 hB2]
end Go.Proofs.Qxb6605676a.Kz
