import Derived.Test.Qxb6605676aKz18
import Derived.Test.Qxb6605676aKz15
namespace Go.Proofs.Qxb6605676a.Kz
set_option linter.unusedVariables false
set_option linter.unusedSimpArgs false
open Go.RowKit Go.Proofs.Qxb6605676a.Mp Go.Proofs.Qxb6605676a.Tm Go.Proofs.Qxb6605676a.En

/-! ### the plain maps and those in memory -/
theorem put_map {α κ : Type} (same : κ → κ → Bool) (f : α → Value) (k : κ) (x : α) : ∀ M : List (κ × α), put same k (f x) (M.map fun p => (p.1, f p.2)) = (gput same k x M).map fun p => (p.1, f p.2)
  | [] => rfl
  | p :: r => by
    simp only [List.map_cons, put, gput]
    by_cases h : same k p.1 = true
    · rw [if_pos h, if_pos h]; rfl
    · rw [if_neg h, if_neg h, put_map same f k x r]; rfl
theorem get_map {α κ : Type} (same : κ → κ → Bool) (f : α → Value) (k : κ) : ∀ M : List (κ × α), Mp.get same k (M.map fun p => (p.1, f p.2)) = (gget same k M).map f
  | [] => rfl
  | p :: r => by
    simp only [List.map_cons, Mp.get, gget]
    by_cases h : same k p.1 = true
    · rw [if_pos h, if_pos h]; rfl
    · rw [if_neg h, if_neg h, get_map same f k r]

/-- The map of places: the last rule of a name. -/
def plcs : List RuleD → Nat → List (ByteArray × Value) → List (ByteArray × Value)
  | [], _, M => M
  | r :: R, i, M => plcs R (i + 1) (put sameS r.name (.int .i64 i) M)

theorem get_put_S (k k' : ByteArray) (v : Value) (M : List (ByteArray × Value)) : Mp.get sameS k' (put sameS k v M) = if sameS k' k then some v else Mp.get sameS k' M := by
  have h := gget_gput sameS (fun a b => sameS_iff a b) k k' v M
  have e1 : put sameS k v M = gput sameS k v M := by
    have := put_map sameS (fun v : Value => v) k v M
    simpa using this
  have e2 : ∀ N : List (ByteArray × Value), Mp.get sameS k' N = gget sameS k' N := fun N => by
    have := get_map sameS (fun v : Value => v) k' N
    simpa using this
  rw [e1, e2, e2, h]

theorem get_plcs (n : ByteArray) : ∀ (R : List RuleD) (i : Nat) (p : Int) (M : List (ByteArray × Value)), Mp.get sameS n M = (if p < 0 then none else some (.int .i64 p)) →
    Mp.get sameS n (plcs R i M) = if plc n R i p < 0 then none else some (.int .i64 (plc n R i p))
  | [], i, p, M, h => h
  | r :: R, i, p, M, h => by
    unfold plcs plc
    refine get_plcs n R (i + 1) _ _ ?_
    rw [get_put_S]
    have e : sameS n r.name = (r.name.toList == n.toList) := by
      unfold sameS
      rw [Bool.eq_iff_iff, beq_iff_eq, beq_iff_eq]
      exact eq_comm
    rw [e]
    by_cases hm : (r.name.toList == n.toList) = true
    · rw [if_pos hm, if_pos hm, if_neg (by omega)]
    · rw [if_neg hm, if_neg hm]; exact h

/-- The keys of the maps that Restore fills. -/
def keyA (R : List RuleD) (q : ZK) : Option Key := if q.state.toList == okB.toList then none else if (mtc R q.rule q.metric q.sev).1 < 0 then none else some ⟨(mtc R q.rule q.metric q.sev).1, (mtc R q.rule q.metric q.sev).2, q.sensor⟩
def keyC (R : List RuleD) (q : ZK) : Option Key := if q.cool = 0 then none else if (mtc R q.rule q.metric q.sev).1 < 0 then none else some ⟨(mtc R q.rule q.metric q.sev).1, (mtc R q.rule q.metric q.sev).2, q.sensor⟩
def keyL (q : ZK) : Option (ByteArray × ByteArray) := if q.state.toList == okB.toList then none else some (q.rule, q.sensor)
end Go.Proofs.Qxb6605676a.Kz
