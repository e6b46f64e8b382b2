import Derived.Test.Qxb6605676aKz25
import Derived.Maps.RangeRun
namespace Go.Proofs.Qxb6605676a.Kz
set_option linter.unusedVariables false
set_option linter.unusedSimpArgs false
open Go.RowKit Go.Proofs.Qxb6605676a.Mp Go.Proofs.Qxb6605676a.Tm Go.Proofs.Qxb6605676a.En

/-! ### The entries of the map of alarms (no Go) -/
section
variable {α κ : Type} (same : κ → κ → Bool) (key : α → Option κ) (hs : ∀ a b, same a b = true ↔ a = b)
theorem gput_mem (k : κ) (x : α) : ∀ (M : List (κ × α)) (p : κ × α), p ∈ gput same k x M → p = (k, x) ∨ p ∈ M
  | [], p, h => by simp [gput] at h; exact .inl h
  | q :: r, p, h => by
    unfold gput at h
    split at h
    · rcases List.mem_cons.1 h with h | h
      · exact .inl h
      · exact .inr (List.mem_cons_of_mem _ h)
    · rcases List.mem_cons.1 h with h | h
      · exact .inr (h ▸ List.mem_cons_self)
      · rcases gput_mem k x r p h with h | h
        · exact .inl h
        · exact .inr (List.mem_cons_of_mem _ h)
theorem gmap_mem (xs : List α) : ∀ p ∈ gmap same key xs, p.2 ∈ xs ∧ key p.2 = some p.1 := by
  have : ∀ (ys : List α) (M : List (κ × α)), (∀ p ∈ M, p.2 ∈ xs ∧ key p.2 = some p.1) → (∀ y ∈ ys, y ∈ xs) → ∀ p ∈ ys.foldl (gstep same key) M, p.2 ∈ xs ∧ key p.2 = some p.1 := by
    intro ys
    induction ys with
    | nil => intro M hM _ p hp; exact hM p hp
    | cons y ys ih =>
      intro M hM hy p hp
      refine ih (gstep same key M y) ?_ (fun z hz => hy z (List.mem_cons_of_mem _ hz)) p hp
      intro q hq
      unfold gstep at hq
      cases hk : key y with
      | none => rw [hk] at hq; exact hM q hq
      | some k =>
        rw [hk] at hq
        rcases gput_mem same k y M q hq with rfl | h
        · exact ⟨hy y List.mem_cons_self, hk⟩
        · exact hM q h
  exact this xs [] (by simp) (fun y hy => hy)
include hs in
theorem gget_some (k : κ) (x : α) : ∀ (M : List (κ × α)), gget same k M = some x → (k, x) ∈ M
  | [], h => by simp [gget] at h
  | q :: r, h => by
    unfold gget at h
    split at h
    · rename_i h1
      have e := (hs _ _).1 h1
      obtain rfl := Option.some.inj h
      subst e
      exact List.mem_cons_self
    · exact List.mem_cons_of_mem _ (gget_some k x r h)

/-- No key twice. -/
def Keyed (M : List (κ × α)) : Prop := M.Pairwise fun p q => same p.1 q.1 = false
include hs in
theorem gput_keyed (k : κ) (x : α) : ∀ (M : List (κ × α)), Keyed same M → Keyed same (gput same k x M)
  | [], _ => by simp [gput, Keyed]
  | q :: r, h => by
    unfold gput
    obtain ⟨h1, h2⟩ := List.pairwise_cons.1 h
    split
    · rename_i hk
      have e := (hs _ _).1 hk
      subst e
      exact List.pairwise_cons.2 ⟨h1, h2⟩
    · rename_i hk
      refine List.pairwise_cons.2 ⟨fun p hp => ?_, gput_keyed k x r h2⟩
      rcases gput_mem same k x r p hp with rfl | h3
      · cases hc : same q.1 k with
        | false => rfl
        | true =>
          have e := (hs _ _).1 hc
          exact absurd ((hs _ _).2 e.symm) hk
      · exact h1 p h3
include hs in
theorem gmap_keyed (xs : List α) : Keyed same (gmap same key xs) := by
  have : ∀ (ys : List α) (M : List (κ × α)), Keyed same M → Keyed same (ys.foldl (gstep same key) M) := by
    intro ys
    induction ys with
    | nil => intro M h; exact h
    | cons y ys ih =>
      intro M h
      refine ih _ ?_
      unfold gstep
      cases key y with
      | none => exact h
      | some k => exact gput_keyed same hs k y M h
  exact this xs [] List.Pairwise.nil
include hs in
theorem gget_mem : ∀ (M : List (κ × α)), Keyed same M → ∀ p ∈ M, gget same p.1 M = some p.2
  | [], _, p, hp => by simp at hp
  | q :: r, h, p, hp => by
    obtain ⟨h1, h2⟩ := List.pairwise_cons.1 h
    unfold gget
    rcases List.mem_cons.1 hp with rfl | hp
    · rw [if_pos ((hs _ _).2 rfl)]
    · have hne : ¬ same p.1 q.1 = true := by
        intro e
        have e' := (hs _ _).1 e
        have := h1 p hp
        rw [e'] at this
        rw [(hs _ _).2 rfl] at this
        cases this
      rw [if_neg hne]
      exact gget_mem r h2 p hp
end

/-! ### Ranging over a map, in whatever order -/
theorem filter_erase : ∀ (l : List MapEntry) (t : Nat) (ht : t < l.length), (l.map (·.born)).Pairwise (· < ·) → l.filter (fun x => !(x.born == l[t].born)) = l.eraseIdx t
  | [], t, ht, _ => by simp at ht
  | a :: l, 0, _, h => by
    simp only [List.map_cons] at h
    obtain ⟨h1, _⟩ := List.pairwise_cons.1 h
    simp only [List.getElem_cons_zero, List.eraseIdx_cons_zero]
    rw [List.filter_cons, if_neg (by simp)]
    refine List.filter_eq_self.2 fun x hx => ?_
    have := h1 x.born (List.mem_map.2 ⟨x, hx, rfl⟩)
    simp
    omega
  | a :: l, t + 1, ht, h => by
    simp only [List.map_cons] at h
    obtain ⟨h1, h2⟩ := List.pairwise_cons.1 h
    have ht' : t < l.length := by simpa using ht
    simp only [List.getElem_cons_succ, List.eraseIdx_cons_succ]
    have hlt := h1 l[t].born (List.mem_map.2 ⟨l[t], List.getElem_mem ht', rfl⟩)
    rw [List.filter_cons, if_pos (by simp; omega), filter_erase l t ht' h2]
theorem leftOf_push (es : Array MapEntry) (seen : Array Nat) (b : Nat) : (leftOf es (seen.push b)).toList = (leftOf es seen).toList.filter (fun x => !(x.born == b)) := by
  unfold leftOf
  simp only [Array.toList_filter]
  rw [List.filter_filter]
  refine List.filter_congr fun x _ => ?_
  by_cases h2 : x.born ∈ seen <;> by_cases h1 : x.born = b <;> simp_all
theorem leftOf_nil (es : Array MapEntry) : leftOf es #[] = es := by
  unfold leftOf
  simp

theorem erase_perm {α : Type} : ∀ (l : List α) (t : Nat) (ht : t < l.length), ([l[t]] ++ l.eraseIdx t).Perm l
  | [], t, ht => by simp at ht
  | a :: l, 0, _ => by simp
  | a :: l, t + 1, ht => by
    have ht' : t < l.length := by simpa using ht
    have := erase_perm l t ht'
    simp only [List.getElem_cons_succ, List.eraseIdx_cons_succ, List.cons_append, List.nil_append] at this ⊢
    exact (List.Perm.swap a l[t] _).trans (List.Perm.cons a this)
theorem map_erase {α β : Type} (f : α → β) : ∀ (l : List α) (t : Nat), (l.eraseIdx t).map f = (l.map f).eraseIdx t
  | [], t => by simp
  | a :: l, 0 => by simp
  | a :: l, t + 1 => by simp [map_erase f l t]

/-- Z: the entries still to come; Y: those that have come. -/
structure Ranged {κ : Type} (enc : κ → Value) (es : Array MapEntry) (seen : Array Nat) (A Y Z : List (κ × Value)) : Prop where
  perm : (Y ++ Z).Perm A
  left : (leftOf es seen).toList.map (fun e => (e.key, e.val)) = Z.map (fun p => (enc p.1, p.2))
theorem Ranged.start {κ : Type} {enc : κ → Value} {es : Array MapEntry} {A : List (κ × Value)} (h : es.toList.map (fun e => (e.key, e.val)) = A.map (fun p => (enc p.1, p.2))) : Ranged enc es #[] A [] A :=
  ⟨by simp, by rw [leftOf_nil]; exact h⟩
theorem Ranged.step {κ : Type} {enc : κ → Value} {es : Array MapEntry} {seen : Array Nat} {A Y Z : List (κ × Value)} (h : Ranged enc es seen A Y Z) (hp : (es.toList.map (·.born)).Pairwise (· < ·)) {e : MapEntry} (he : e ∈ (leftOf es seen).toList) :
    ∃ p Z', p ∈ Z ∧ e.key = enc p.1 ∧ e.val = p.2 ∧ Ranged enc es (seen.push e.born) A (Y ++ [p]) Z' := by
  obtain ⟨t, ht, rfl⟩ := List.getElem_of_mem he
  have hl : (leftOf es seen).toList.length = Z.length := by
    have := congrArg List.length h.left
    simpa using this
  have htz : t < Z.length := by omega
  have hat : ((leftOf es seen).toList[t].key, (leftOf es seen).toList[t].val) = (enc Z[t].1, Z[t].2) := by
    have h1 := congrArg (·[t]?) h.left
    simp only [List.getElem?_map, List.getElem?_eq_getElem ht, List.getElem?_eq_getElem htz, Option.map_some] at h1
    exact Option.some.inj h1
  have hpl : ((leftOf es seen).toList.map (·.born)).Pairwise (· < ·) := by
    unfold leftOf
    rw [Array.toList_filter]
    exact hp.sublist (List.Sublist.map _ (List.filter_sublist))
  refine ⟨Z[t], Z.eraseIdx t, List.getElem_mem htz, (Prod.mk.inj hat).1, (Prod.mk.inj hat).2, ?_, ?_⟩
  · refine List.Perm.trans ?_ h.perm
    rw [List.append_assoc]
    refine List.Perm.append_left Y ?_
    exact erase_perm Z t htz
  · rw [leftOf_push, filter_erase _ t ht hpl, map_erase, h.left, ← map_erase]
theorem Ranged.done {κ : Type} {enc : κ → Value} {es : Array MapEntry} {seen : Array Nat} {A Y Z : List (κ × Value)} (h : Ranged enc es seen A Y Z) (h0 : (leftOf es seen).size = 0) : Y.Perm A := by
  have hz : Z = [] := by
    have := congrArg List.length h.left
    rw [List.length_map, List.length_map] at this
    have e : (leftOf es seen).toList.length = 0 := by simpa using h0
    exact List.length_eq_zero_iff.1 (by omega)
  have := h.perm
  rw [hz, List.append_nil] at this
  exact this
/-- How many entries are still to come. -/
def rngLeft (b r : Nat) (w : World) : Nat := match w.heap[b]?, w.heap[r]? with
  | some (.map es _), some (.mapIter _ _ seen _) => (leftOf es seen).size
  | _, _ => 0
end Go.Proofs.Qxb6605676a.Kz
