import Derived.Test.Qxb6605676aKz9
namespace Go.Proofs.Qxb6605676a.Kz
set_option linter.unusedVariables false
set_option linter.unusedSimpArgs false
open Go.RowKit Go.Proofs.Qxb6605676a.Mp Go.Proofs.Qxb6605676a.Tm Go.Proofs.Qxb6605676a.En

/-- The levels of a rule in memory. -/
def LevelsAt (w : World) (lb : Nat) (S : List ByteArray) : Prop := ∀ j s, S[j]? = some s → w.cell? ⟨lb, j * 4, none⟩ = some (.string s) ∧ w.cell? ⟨lb, j * 4 + 1, none⟩ = some (.string ⟨#[]⟩) ∧ w.cell? ⟨lb, j * 4 + 2, none⟩ = some (.float .f64 0) ∧ w.cell? ⟨lb, j * 4 + 3, none⟩ = some (.float .f64 0)
theorem LevelsAt.below {w w' : World} {lb : Nat} {S : List ByteArray} (h : LevelsAt w lb S) (hb : Below w.heap.size w w') : LevelsAt w' lb S := by
  intro j s hs
  obtain ⟨h0, h1, h2, h3⟩ := h j s hs
  have hl : lb < w.heap.size := World.block_lt_of_cell? w _ h0
  exact ⟨by rw [hb.cell hl]; exact h0, by rw [hb.cell hl]; exact h1, by rw [hb.cell hl]; exact h2, by rw [hb.cell hl]; exact h3⟩

theorem lev_drop (t : ByteArray) (S : List ByteArray) (k i : Nat) (h : k < S.length) : lev t (S.drop k) i = if S[k].toList == t.toList then (i : Int) else lev t (S.drop (k + 1)) (i + 1) := by
  rw [List.drop_eq_getElem_cons h]; rfl

set_option maxHeartbeats 1000000 in
/-- slices.IndexFunc over the levels of a rule, by the key state's severity. -/
theorem indexFunc_any (S : List ByteArray) (t : ByteArray) (lb b : Nat) (w : World) (hL : LevelsAt w lb S) (hc : w.cell? ⟨b, 3, none⟩ = some (.string t)) (hl : S.length ≤ 1000) :
    Calls Try.prog 56 #[.slice (some ⟨lb, 0, none⟩) S.length S.length, .func (.func 57) #[] #[.pointer (some ⟨b, 0, none⟩)]] w fun e w' => e = .returned (.int .i64 (lev t S 0)) ∧ Below w.heap.size w w' := by
  have hbb : b < w.heap.size := World.block_lt_of_cell? w _ hc
  go_enter Try.func56, Try.ntmps56
  go_wp2
  go_loopw [8] (fun x wr => ∃ k : Nat, k ≤ S.length ∧ x = .int .i64 k ∧ lev t S 0 = lev t (S.drop k) k ∧ Below w.heap.size w wr) (fun x _ => S.length - (intOf x).toNat)
  case atStart => exact ⟨0, Nat.zero_le _, rfl, by simp, Below.refl _ _⟩
  case round =>
    obtain ⟨k, hk, rfl, hv, hb⟩ := hrel
    by_cases hkl : k < S.length
    · obtain ⟨h0, h1, h2, h3⟩ := (hL.below hb) k S[k] (by simp [hkl])
      have hc' : wr.cell? ⟨b, 3, none⟩ = some (.string t) := by rw [hb.cell hbb]; exact hc
      rw [lev_drop t S k k hkl] at hv
      generalize S[k] = s at *
      have HI : Hid (Calls Try.prog 57 #[.agg #[.string s, .string ⟨#[]⟩, .float .f64 0, .float .f64 0], .pointer (some ⟨b, 0, none⟩)] wr fun e w' => e = .returned (.bool (s.toList == t.toList)) ∧ Below wr.heap.size wr w') := Rs.isLevel_any s t b wr hc'
      by_cases hm : (s.toList == t.toList) = true
      · rw [hm] at HI hv
        rw [if_pos rfl] at hv
        go_wp2_with (go_at_call 57; refine Calls.mono HI.out ?_; rintro e w1 ⟨rfl, hb1⟩)
        go_ret
        exact ⟨ret_int hv.symm, Below.step hb hb1⟩
      · have hm' : (s.toList == t.toList) = false := by simpa using hm
        rw [hm'] at HI hv
        rw [if_neg (by simp)] at hv
        have HV : Hid (lev t S 0 = lev t (S.drop (k + 1)) (k + 1)) := hv
        clear hv hm hm'
        go_wp2_with (go_at_call 57; refine Calls.mono HI.out ?_; rintro e w1 ⟨rfl, hb1⟩)
        exact ⟨⟨k + 1, by omega, by go_num, HV.out, Below.step hb hb1⟩, by simp [intOf]; omega⟩
    · have hd : S.drop k = [] := List.drop_eq_nil_of_le (by omega)
      rw [hd] at hv
      go_wp2
      go_ret
      exact ⟨ret_int (by rw [hv]; rfl), hb⟩
end Go.Proofs.Qxb6605676a.Kz
