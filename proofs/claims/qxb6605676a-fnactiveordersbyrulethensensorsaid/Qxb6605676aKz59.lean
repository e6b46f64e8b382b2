import Derived.Test.Qxb6605676aKz16
import Derived.Test.Qxb6605676aKz27
namespace Go.Proofs.Qxb6605676a.Kz
set_option linter.unusedVariables false
set_option linter.unusedSimpArgs false
open Go.RowKit Go.Proofs.Qxb6605676a.Mp Go.Proofs.Qxb6605676a.Tm Go.Proofs.Qxb6605676a.En

/-- It returns some bool; if true, then no sensor's name is long. -/
def RBS (K : List ZK) (e : Ending) : Prop := ∃ b : Bool, e = .returned (.bool b) ∧ (b = true → ∀ q ∈ K, q.sensor.size ≤ 1048576)
theorem rbsF (K : List ZK) : RBS K (.returned (.bool false)) := ⟨false, rfl, by simp⟩

set_option maxHeartbeats 8000000 in
set_option maxRecDepth 100000 in
/-- The program's own bound: it returns some bool, and nothing turns. -/
theorem zzbytes20 (n0 m0 s0 n1 m1 s1 : ByteArray) (K : List ZK) (a1 : Option Addr) (c1 : Nat) (w : World)
    (h1 : K = [] ∨ ∃ b o, a1 = some ⟨b, o, none⟩ ∧ KeysAt w b o K)
    (ln0 : n0.size < 2 ^ 63) (lm0 : m0.size < 2 ^ 63) (l0 : s0.size < 2 ^ 63) (ln1 : n1.size < 2 ^ 63) (lm1 : m1.size < 2 ^ 63) (l1 : s1.size < 2 ^ 63) (lk : K.length < 2 ^ 63) :
    Calls Try.prog 20 #[.string n0, .string m0, .string s0, .string n1, .string m1, .string s1, .slice a1 K.length c1] w fun e w' => RBS K e ∧ w = w' := by
  go_enter Try.func20, Try.ntmps20
  go_wp2
  any_goals (go_ret; exact ⟨rbsF K, rfl⟩)
  go_loop [15, 16] (fun y x => ∃ k mm : Nat, k ≤ K.length ∧ x = .int .i64 k ∧ y = .int .i64 mm ∧ mm ≤ 1048576 ∧ Hid (∀ j, j < k → ∀ h : j < K.length, K[j].sensor.size ≤ 1048576)) (fun _ x => K.length - (intOf x).toNat)
  case atStart => exact ⟨0, n0.size + m0.size + s0.size + n1.size + m1.size + s1.size + K.length, Nat.zero_le _, rfl, by go_num, by omega, fun j hj => by omega⟩
  case round =>
    obtain ⟨k, mm, hk, rfl, rfl, hm, HS⟩ := hrel
    by_cases hkl : k < K.length
    · rcases h1 with rfl | ⟨b, o, rfl, h1⟩
      · simp at hkl
      obtain ⟨f0, f1, f2, f3, f4, f5, f6, f7, f8, f9, f10⟩ := zkR (h1.range k hkl)
      have HT : Hid (K[k].sensor.size ≤ 1048576 → ∀ j, j < k + 1 → ∀ h : j < K.length, K[j].sensor.size ≤ 1048576) := by
        refine fun h0 j hj h => ?_
        rcases Nat.lt_or_ge j k with hjk | hjk
        · exact HS.out j hjk h
        · obtain rfl : j = k := by omega
          exact h0
      clear HS
      generalize K[k] = q at *
      generalize q.rule = q_rule at *
      generalize q.sensor = q_sensor at *
      generalize q.metric = q_metric at *
      generalize q.sev = q_sev at *
      generalize q.state = q_state at *
      by_cases t_rule : 1048576 < q_rule.size
      · go_wp2
        go_ret
        exact ⟨rbsF K, rfl⟩
      by_cases u_rule : 1048576 < mm + q_rule.size
      · go_wp2
        go_ret
        exact ⟨rbsF K, rfl⟩
      by_cases t_sensor : 1048576 < q_sensor.size
      · go_wp2
        go_ret
        exact ⟨rbsF K, rfl⟩
      by_cases u_sensor : 1048576 < mm + q_rule.size + q_sensor.size
      · go_wp2
        go_ret
        exact ⟨rbsF K, rfl⟩
      by_cases t_metric : 1048576 < q_metric.size
      · go_wp2
        go_ret
        exact ⟨rbsF K, rfl⟩
      by_cases u_metric : 1048576 < mm + q_rule.size + q_sensor.size + q_metric.size
      · go_wp2
        go_ret
        exact ⟨rbsF K, rfl⟩
      by_cases t_sev : 1048576 < q_sev.size
      · go_wp2
        go_ret
        exact ⟨rbsF K, rfl⟩
      by_cases u_sev : 1048576 < mm + q_rule.size + q_sensor.size + q_metric.size + q_sev.size
      · go_wp2
        go_ret
        exact ⟨rbsF K, rfl⟩
      by_cases t_state : 1048576 < q_state.size
      · go_wp2
        go_ret
        exact ⟨rbsF K, rfl⟩
      by_cases u_state : 1048576 < mm + q_rule.size + q_sensor.size + q_metric.size + q_sev.size + q_state.size
      · go_wp2
        go_ret
        exact ⟨rbsF K, rfl⟩
      go_wp2
      exact ⟨⟨k + 1, mm + q_rule.size + q_sensor.size + q_metric.size + q_sev.size + q_state.size, by omega, by go_num, by go_num, by omega, (HT.out (by omega))⟩, by simp [intOf]; omega⟩
    · clear h1
      have hke : k = K.length := by omega
      subst hke
      go_wp2
      go_ret
      refine ⟨⟨true, rfl, fun _ q hq => ?_⟩, rfl⟩
      obtain ⟨j, hj, rfl⟩ := List.getElem_of_mem hq
      exact HS.out j hj hj
end Go.Proofs.Qxb6605676a.Kz
