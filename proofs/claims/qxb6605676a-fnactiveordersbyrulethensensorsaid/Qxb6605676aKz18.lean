import Derived.Test.Qxb6605676aKz3
namespace Go.Proofs.Qxb6605676a.Kz
set_option linter.unusedVariables false
set_option linter.unusedSimpArgs false

/-! ### a map that is written in a loop: the last one of a key stands (no Go here) -/
section
variable {α κ : Type} (same : κ → κ → Bool) (key : α → Option κ)

def gput (k : κ) (x : α) : List (κ × α) → List (κ × α)
  | [] => [(k, x)]
  | p :: r => if same k p.1 then (k, x) :: r else p :: gput k x r
def gget (k : κ) : List (κ × α) → Option α
  | [] => none
  | p :: r => if same k p.1 then some p.2 else gget k r
def gstep (M : List (κ × α)) (x : α) : List (κ × α) := match key x with
  | none => M
  | some k => gput same k x M
def gmap (xs : List α) : List (κ × α) := xs.foldl (gstep same key) []

theorem gmap_snoc (xs : List α) (x : α) : gmap same key (xs ++ [x]) = gstep same key (gmap same key xs) x := by
  unfold gmap; rw [List.foldl_append]; rfl

variable (hs : ∀ a b, same a b = true ↔ a = b)

include hs in
theorem gget_gput (k k' : κ) (x : α) : ∀ M : List (κ × α), gget same k' (gput same k x M) = if same k' k then some x else gget same k' M
  | [] => by simp [gput, gget]
  | p :: r => by
    unfold gput
    by_cases h : same k p.1 = true
    · rw [if_pos h]
      have e : k = p.1 := (hs _ _).1 h
      by_cases h2 : same k' k = true
      · simp [gget, h2]
      · have h3 : same k' p.1 = false := by rw [← e]; simpa using h2
        simp [gget, h2, h3]
    · rw [if_neg h]
      unfold gget
      by_cases h2 : same k' p.1 = true
      · rw [if_pos h2, if_pos h2]
        have h3 : ¬ same k' k = true := fun h3 => h (by rw [← (hs _ _).1 h3]; exact h2)
        rw [if_neg h3]
      · rw [if_neg h2, if_neg h2]
        exact gget_gput k k' x r
theorem gput_length (k : κ) (x : α) : ∀ M : List (κ × α), (gput same k x M).length = M.length + (if (gget same k M).isSome then 0 else 1)
  | [] => by simp [gput, gget]
  | p :: r => by
    unfold gput gget
    by_cases h : same k p.1 = true
    · rw [if_pos h, if_pos h]; simp
    · rw [if_neg h, if_neg h, List.length_cons, gput_length k x r, List.length_cons]; omega

variable (xs : List α)
def keyAt (j : Nat) : Option κ := (xs[j]?).bind key
def pk (k : κ) (j : Nat) : Bool := match keyAt key xs j with
  | none => false
  | some k' => same k k'
/-- The last place below n that bears key k, or -1. -/
def lastK (k : κ) (n : Nat) : Int := lastTo (pk same key xs k) n

theorem lastK_succ (k : κ) (n : Nat) : lastK same key xs k (n + 1) = if pk same key xs k n then (n : Int) else lastK same key xs k n := rfl

theorem lastTo_lt (p : Nat → Bool) : ∀ n, lastTo p n < n
  | 0 => by simp [lastTo]
  | n + 1 => by
    unfold lastTo
    split
    · omega
    · have := lastTo_lt p n; omega
theorem lastTo_ge (p : Nat → Bool) : ∀ n, -1 ≤ lastTo p n
  | 0 => by simp [lastTo]
  | n + 1 => by
    unfold lastTo
    split
    · omega
    · exact lastTo_ge p n
theorem lastTo_at (p : Nat → Bool) : ∀ n, 0 ≤ lastTo p n → p (lastTo p n).toNat = true
  | 0, h => by simp [lastTo] at h
  | n + 1, h => by
    unfold lastTo at h ⊢
    split
    · rename_i hp; simpa using hp
    · rename_i hp; rw [if_neg hp] at h; exact lastTo_at p n h

include hs in
theorem gget_gmap (n : Nat) (hn : n ≤ xs.length) (k : κ) : gget same k (gmap same key (xs.take n)) = if lastK same key xs k n < 0 then none else xs[(lastK same key xs k n).toNat]? := by
  induction n with
  | zero => simp [gmap, gget, lastK, lastTo]
  | succ n ih =>
    have hx : xs[n]? = some xs[n] := by simp
    rw [List.take_succ_eq_append_getElem (by omega), gmap_snoc]
    have ih := ih (by omega)
    unfold gstep
    rw [lastK_succ]
    cases hk : key xs[n] with
    | none =>
      have hp : pk same key xs k n = false := by simp [pk, keyAt, hx, hk]
      rw [hp]
      simp only [Bool.false_eq_true, if_false]
      exact ih
    | some k' =>
      simp only
      rw [gget_gput same hs]
      have hp : pk same key xs k n = same k k' := by simp [pk, keyAt, hx, hk]
      rw [hp]
      by_cases h : same k k' = true
      · rw [if_pos h, if_pos h]
        simp [hx]
      · rw [if_neg h, if_neg h]
        exact ih

/-- How many places below n q takes. -/
def cntTo (q : Nat → Bool) : Nat → Nat
  | 0 => 0
  | n + 1 => cntTo q n + (if q n then 1 else 0)
theorem cntTo_congr {q q' : Nat → Bool} : ∀ n, (∀ j, j < n → q j = q' j) → cntTo q n = cntTo q' n
  | 0, _ => rfl
  | n + 1, h => by
    unfold cntTo
    rw [cntTo_congr n (fun j hj => h j (by omega)), h n (by omega)]
theorem cntTo_split (q r : Nat → Bool) : ∀ n, cntTo q n = cntTo (fun j => q j && r j) n + cntTo (fun j => q j && !r j) n
  | 0 => rfl
  | n + 1 => by
    unfold cntTo
    rw [cntTo_split q r n]
    cases q n <;> cases r n <;> simp <;> omega
theorem cntTo_one (t : Int) : ∀ n : Nat, cntTo (fun j => decide (t = (j : Int))) n = if 0 ≤ t ∧ t < n then 1 else 0
  | 0 => by simp [cntTo]; first | done | omega
  | n + 1 => by
    unfold cntTo
    rw [cntTo_one t n]
    by_cases h : t = n
    · subst h; simp; omega
    · simp only [h, decide_false, Bool.false_eq_true, if_false, Nat.add_zero]
      by_cases h2 : 0 ≤ t ∧ t < n
      · rw [if_pos h2, if_pos (by omega)]
      · rw [if_neg h2, if_neg (by omega)]

/-- Is j the last place, below n, of its key? -/
def isLast (n : Nat) (j : Nat) : Bool := match keyAt key xs j with
  | none => false
  | some k => decide (lastK same key xs k n = (j : Int))

include hs in
theorem gmap_length (n : Nat) (hn : n ≤ xs.length) : (gmap same key (xs.take n)).length = cntTo (isLast same key xs n) n := by
  induction n with
  | zero => simp [gmap, cntTo]
  | succ n ih =>
    have hx : xs[n]? = some xs[n] := by simp
    rw [List.take_succ_eq_append_getElem (by omega), gmap_snoc]
    have ih := ih (by omega)
    unfold gstep cntTo
    cases hk : key xs[n] with
    | none =>
      have hkn : keyAt key xs n = none := by simp [keyAt, hx, hk]
      have hl : ∀ k, lastK same key xs k (n + 1) = lastK same key xs k n := fun k => by
        have hp : pk same key xs k n = false := by simp [pk, hkn]
        rw [lastK_succ, hp]; rfl
      have h1 : isLast same key xs (n + 1) n = false := by simp [isLast, hkn]
      rw [h1]
      simp only [Bool.false_eq_true, if_false, Nat.add_zero]
      rw [ih]
      exact cntTo_congr n fun j _ => by unfold isLast; cases keyAt key xs j <;> simp [hl]
    | some k0 =>
      have hkn : keyAt key xs n = some k0 := by simp [keyAt, hx, hk]
      have hl : ∀ k, lastK same key xs k (n + 1) = if same k k0 then (n : Int) else lastK same key xs k n := fun k => by
        have hp : pk same key xs k n = same k k0 := by simp [pk, hkn]
        rw [lastK_succ, hp]
      have hkk : same k0 k0 = true := (hs _ _).2 rfl
      have h1 : isLast same key xs (n + 1) n = true := by simp [isLast, hkn, hl, hkk]
      rw [h1]
      simp only [if_true]
      rw [gput_length same, ih, gget_gmap same key hs xs n (by omega) k0]
      rw [cntTo_split (isLast same key xs n) (pk same key xs k0) n]
      have e1 : cntTo (isLast same key xs (n + 1)) n = cntTo (fun j => isLast same key xs n j && !pk same key xs k0 j) n := cntTo_congr n fun j hj => by
        unfold isLast pk
        cases hkj : keyAt key xs j with
        | none => rfl
        | some k =>
          simp only [hl]
          by_cases h : same k0 k = true
          · have : k = k0 := ((hs _ _).1 h).symm
            subst this
            simp [hkk]
            omega
          · have h' : ¬ same k k0 = true := fun h2 => h ((hs _ _).2 ((hs _ _).1 h2).symm)
            simp [h, h']
      have e2 : cntTo (fun j => isLast same key xs n j && pk same key xs k0 j) n = cntTo (fun j => decide (lastK same key xs k0 n = (j : Int))) n := cntTo_congr n fun j hj => by
        by_cases ht : lastK same key xs k0 n = (j : Int)
        · have hp : pk same key xs k0 j = true := by
            have := lastTo_at (pk same key xs k0) n (by unfold lastK at ht; omega)
            unfold lastK at ht
            rw [ht] at this
            simpa using this
          have hq : isLast same key xs n j = true := by
            unfold pk at hp
            unfold isLast
            cases hkj : keyAt key xs j with
            | none => rw [hkj] at hp; simp at hp
            | some k =>
              rw [hkj] at hp
              have : k = k0 := ((hs _ _).1 hp).symm
              subst this
              simp [ht]
          rw [hp, hq]; simp [ht]
        · simp only [ht, decide_false]
          cases hp : pk same key xs k0 j with
          | false => simp
          | true =>
            have hq : isLast same key xs n j = false := by
              unfold pk at hp
              unfold isLast
              cases hkj : keyAt key xs j with
              | none => rfl
              | some k =>
                rw [hkj] at hp
                have : k = k0 := ((hs _ _).1 hp).symm
                subst this
                simp [ht]
            rw [hq]; rfl
      rw [e1, e2, cntTo_one]
      have hlt := lastTo_lt (pk same key xs k0) n
      have hge := lastTo_ge (pk same key xs k0) n
      unfold lastK
      by_cases hneg : lastTo (pk same key xs k0) n < 0
      · rw [if_pos hneg, if_neg (by omega)]; simp
      · rw [if_neg hneg, if_pos (by omega)]
        have : (xs[(lastTo (pk same key xs k0) n).toNat]?).isSome = true := by
          rw [List.getElem?_eq_getElem (by omega)]; rfl
        rw [this]; simp; omega
end
end Go.Proofs.Qxb6605676a.Kz
