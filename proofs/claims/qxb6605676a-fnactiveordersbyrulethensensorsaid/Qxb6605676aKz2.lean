import Derived.Test.Qxb6605676aKz1
namespace Go.Proofs.Qxb6605676a.Kz
set_option linter.unusedVariables false
set_option linter.unusedSimpArgs false
open Go.RowKit Go.Proofs.Qxb6605676a.Mp Go.Proofs.Qxb6605676a.Tm Go.Proofs.Qxb6605676a.En

theorem plc_cases (n : ByteArray) (R : List RuleD) : plc n R 0 (-1) = -1 ∨ ∃ p : Nat, plc n R 0 (-1) = p ∧ p < R.length := by
  have h1 := plc_ge n R 0 (-1) (by omega)
  have h2 := plc_lt n R 0 (-1) (by omega)
  rcases Int.lt_or_le (plc n R 0 (-1)) 0 with h | h
  · left; omega
  · right; exact ⟨(plc n R 0 (-1)).toNat, by omega, by omega⟩

theorem ret_pair {a b c d : Int} (h1 : a = c) (h2 : b = d) : Ending.returned (.tuple #[.int .i64 a, .int .i64 b]) = .returned (.tuple #[.int .i64 c, .int .i64 d]) := by rw [h1, h2]

set_option maxHeartbeats 1000000 in
theorem zzmatch_any (R : List RuleD) (n m v : ByteArray) (rb : Nat) (w : World) (hR : RulesAt w rb R) (hlen : R.length ≤ 1000) (hsl : ∀ r ∈ R, r.sevs.length ≤ 1000) :
    Calls Try.prog 68 #[.slice (some ⟨rb, 0, none⟩) R.length R.length, .string n, .string m, .string v] w fun e w' => e = .returned (.tuple #[.int .i64 (mtc R n m v).1, .int .i64 (mtc R n m v).2]) ∧ w = w' := by
  have HP := zzplace_any R n rb w hR hlen
  rcases plc_cases n R with hi | ⟨p, hi, hp⟩
  · rw [hi] at HP
    have HH : Hid (Calls Try.prog 69 #[.slice (some ⟨rb, 0, none⟩) R.length R.length, .string n] w fun e w' => e = .returned (.int .i64 (-1)) ∧ w = w') := HP
    have hm : mtc R n m v = (-1, -1) := by unfold mtc; rw [hi]; rfl
    have HM : Hid (mtc R n m v = (-1, -1)) := hm
    clear HP hi hm
    go_enter Try.func68, Try.ntmps68
    go_wp2_with (go_at_call 69; refine Calls.mono HH.out ?_; rintro e w1 ⟨rfl, rfl⟩)
    go_ret2
    exact ⟨ret_pair (by rw [HM.out]) (by rw [HM.out]), rfl⟩
  · rw [hi] at HP
    have HH : Hid (Calls Try.prog 69 #[.slice (some ⟨rb, 0, none⟩) R.length R.length, .string n] w fun e w' => e = .returned (.int .i64 p) ∧ w = w') := HP
    obtain ⟨c0, c1, sb, c2, c3⟩ := hR p R[p] (by simp [hp])
    have hsb := hsl R[p] (List.getElem_mem hp)
    have hget : R.getD p ⟨⟨#[]⟩, ⟨#[]⟩, []⟩ = R[p] := by simp [List.getD, hp]
    generalize R[p] = r at *
    have hm : mtc R n m v = if r.metric.toList == m.toList then (if lev v r.sevs 0 < 0 then (-1, -1) else ((p : Int), lev v r.sevs 0)) else (-1, -1) := by
      unfold mtc
      simp only [hi, Int.toNat_natCast, hget]
      rw [if_neg (by omega)]
    have HM : Hid (mtc R n m v = if r.metric.toList == m.toList then (if lev v r.sevs 0 < 0 then (-1, -1) else ((p : Int), lev v r.sevs 0)) else (-1, -1)) := hm
    clear HP hi hm hget hR hsl
    cases hq : (r.metric.toList == m.toList)
    · have hq' : ¬ r.metric.toList = m.toList := by simpa using hq
      go_enter Try.func68, Try.ntmps68
      go_wp2_with (go_at_call 69; refine Calls.mono HH.out ?_; rintro e w1 ⟨rfl, rfl⟩)
      go_ret2
      exact ⟨ret_pair (by rw [HM.out]; simp [hq]) (by rw [HM.out]; simp [hq]), rfl⟩
    · have hq' : r.metric.toList = m.toList := by simpa using hq
      go_enter Try.func68, Try.ntmps68
      go_wp2_with (go_at_call 69; refine Calls.mono HH.out ?_; rintro e w1 ⟨rfl, rfl⟩)
      go_loop [11] (fun i => ∃ k : Nat, k ≤ r.sevs.length ∧ i = .int .i64 k ∧ lev v r.sevs 0 = lev v (r.sevs.drop k) k) (fun i => r.sevs.length - (intOf i).toNat)
      case atStart => exact ⟨0, Nat.zero_le _, rfl, by simp⟩
      case round =>
        obtain ⟨k, hk, rfl, hv⟩ := hrel
        have hcell : k < r.sevs.length → w.cell? ⟨sb, k, none⟩ = some (.string (r.sevs.getD k ⟨#[]⟩)) := by
          intro h
          have := c3 k r.sevs[k] (by simp [h])
          simpa [List.getD, h] using this
        go_wp2
        · have hlt : k < r.sevs.length := by assumption
          have hs : (r.sevs[k].toList == v.toList) = true := by assumption
          rw [List.drop_eq_getElem_cons hlt, lev, if_pos hs] at hv
          go_ret2
          have hn : ¬ ((k : Int) < 0) := by omega
          exact ⟨ret_pair (by rw [HM.out, hv]; simp [hq, hn]) (by rw [HM.out, hv]; simp [hq, hn]), rfl⟩
        · have hlt : k < r.sevs.length := by assumption
          have hs : (r.sevs[k].toList == v.toList) = false := by assumption
          rw [List.drop_eq_getElem_cons hlt, lev, if_neg (by rw [hs]; simp)] at hv
          exact ⟨⟨k + 1, by omega, by go_num, hv⟩, by simp [intOf]; omega⟩
        · have hge : ¬ k < r.sevs.length := by assumption
          go_ret2
          have hd : r.sevs.drop k = [] := List.drop_eq_nil_of_le (by omega)
          rw [hd, lev] at hv
          exact ⟨ret_pair (by rw [HM.out, hv]; simp [hq]) (by rw [HM.out, hv]; simp [hq]), rfl⟩
end Go.Proofs.Qxb6605676a.Kz
