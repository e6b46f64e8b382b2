import Derived.Test.Qxb6605676aRs1
import Derived.LoopTactic
namespace Go.Proofs.Qxb6605676a.Kz
set_option linter.unusedVariables false
set_option linter.unusedSimpArgs false
open Go.RowKit Go.Proofs.Qxb6605676a.Mp Go.Proofs.Qxb6605676a.Tm Go.Proofs.Qxb6605676a.En

/-- A rule as plain data. -/
structure RuleD where
  name : ByteArray
  metric : ByteArray
  sevs : List ByteArray

/-- The law's own rules, in memory from block rb on. -/
def RulesAt (w : World) (rb : Nat) (R : List RuleD) : Prop := ∀ i r, R[i]? = some r →
  w.cell? ⟨rb, i * 3, none⟩ = some (.string r.name) ∧ w.cell? ⟨rb, i * 3 + 1, none⟩ = some (.string r.metric) ∧
  ∃ sb, w.cell? ⟨rb, i * 3 + 2, none⟩ = some (.slice (some ⟨sb, 0, none⟩) r.sevs.length r.sevs.length) ∧ ∀ j s, r.sevs[j]? = some s → w.cell? ⟨sb, j, none⟩ = some (.string s)

/-- The last place of the name, from place i on; p if there is none. -/
def plc (n : ByteArray) : List RuleD → Nat → Int → Int
  | [], _, p => p
  | r :: R, i, p => plc n R (i + 1) (if r.name.toList == n.toList then (i : Int) else p)

set_option maxHeartbeats 400000 in
theorem zzplace_any (R : List RuleD) (n : ByteArray) (rb : Nat) (w : World) (hR : RulesAt w rb R) (hlen : R.length ≤ 1000) :
    Calls Try.prog 69 #[.slice (some ⟨rb, 0, none⟩) R.length R.length, .string n] w fun e w' => e = .returned (.int .i64 (plc n R 0 (-1))) ∧ w = w' := by
  go_enter Try.func69, Try.ntmps69
  go_wp2
  go_loop [5, 6] (fun p i => ∃ (k : Nat) (q : Int), k ≤ R.length ∧ i = .int .i64 k ∧ p = .int .i64 q ∧ plc n R 0 (-1) = plc n (R.drop k) k q) (fun _ i => R.length - (intOf i).toNat)
  case atStart => exact ⟨0, -1, Nat.zero_le _, rfl, rfl, by simp⟩
  case round =>
    obtain ⟨k, q, hk, rfl, rfl, hp⟩ := hrel
    have hcell : k < R.length → w.cell? ⟨rb, k * 3, none⟩ = some (.string (R.getD k ⟨⟨#[]⟩, ⟨#[]⟩, []⟩).name) := by
      intro h
      have := (hR k R[k] (by simp [h])).1
      simpa [List.getD, h] using this
    go_wp2
    · have hlt : k < R.length := by assumption
      have hq : (R[k].name.toList == n.toList) = true := by assumption
      rw [List.drop_eq_getElem_cons hlt, plc, if_pos hq] at hp
      exact ⟨⟨k + 1, k, by omega, by go_num, rfl, hp⟩, by simp [intOf]; omega⟩
    · have hlt : k < R.length := by assumption
      have hq : (R[k].name.toList == n.toList) = false := by assumption
      rw [List.drop_eq_getElem_cons hlt, plc, if_neg (by rw [hq]; simp)] at hp
      exact ⟨⟨k + 1, q, by omega, by go_num, rfl, hp⟩, by simp [intOf]; omega⟩
    · have hge : ¬ k < R.length := by assumption
      go_ret
      have hd : R.drop k = [] := List.drop_eq_nil_of_le (by omega)
      exact ⟨ret_int (by rw [hd]; rfl), rfl⟩

/-- The place of the first severity that is sv, from place i on; -1 if there is none. -/
def lev (sv : ByteArray) : List ByteArray → Nat → Int
  | [], _ => -1
  | s :: S, i => if s.toList == sv.toList then (i : Int) else lev sv S (i + 1)

/-- The rule and level that a key state names, or -1, -1. -/
def mtc (R : List RuleD) (rule metric sev : ByteArray) : Int × Int :=
  let i := plc rule R 0 (-1)
  if i < 0 then (-1, -1)
  else if (R.getD i.toNat ⟨⟨#[]⟩, ⟨#[]⟩, []⟩).metric.toList == metric.toList then
    (if lev sev (R.getD i.toNat ⟨⟨#[]⟩, ⟨#[]⟩, []⟩).sevs 0 < 0 then (-1, -1) else (i, lev sev (R.getD i.toNat ⟨⟨#[]⟩, ⟨#[]⟩, []⟩).sevs 0))
  else (-1, -1)

theorem plc_lt (n : ByteArray) : ∀ (R : List RuleD) (i : Nat) (p : Int), p < i → plc n R i p < i + R.length
  | [], i, p, h => by simp [plc]; omega
  | r :: R, i, p, h => by
    have := plc_lt n R (i + 1) (if r.name.toList == n.toList then (i : Int) else p) (by split <;> omega)
    simp only [plc, List.length_cons]
    omega

theorem plc_ge (n : ByteArray) : ∀ (R : List RuleD) (i : Nat) (p : Int), -1 ≤ p → -1 ≤ plc n R i p
  | [], i, p, h => h
  | r :: R, i, p, h => plc_ge n R (i + 1) _ (by split <;> omega)
end Go.Proofs.Qxb6605676a.Kz
