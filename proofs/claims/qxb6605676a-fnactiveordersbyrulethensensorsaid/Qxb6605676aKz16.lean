import Derived.Test.Qxb6605676aKz15
namespace Go.Proofs.Qxb6605676a.Kz
set_option linter.unusedVariables false
set_option linter.unusedSimpArgs false
open Go.RowKit Go.Proofs.Qxb6605676a.Mp Go.Proofs.Qxb6605676a.Tm Go.Proofs.Qxb6605676a.En

def RB (e : Ending) : Prop := ∃ b : Bool, e = .returned (.bool b)

set_option maxHeartbeats 8000000 in
set_option maxRecDepth 100000 in
/-- The program's own bound: it returns some bool, and nothing turns. -/
theorem zzbytes22 (n m s0 s1 : ByteArray) (two : Bool) (K : List ZK) (S : List ZS) (T : List ZR) (a1 a2 a3 : Option Addr) (c1 c2 c3 : Nat) (w : World)
    (h1 : K = [] ∨ ∃ b o, a1 = some ⟨b, o, none⟩ ∧ KeysAt w b o K) (h2 : S = [] ∨ ∃ b o, a2 = some ⟨b, o, none⟩ ∧ SeriesAt w b o S) (h3 : T = [] ∨ ∃ b o, a3 = some ⟨b, o, none⟩ ∧ RaisedAt w b o T)
    (ln : n.size < 2 ^ 63) (lm : m.size < 2 ^ 63) (l0 : s0.size < 2 ^ 63) (l1 : s1.size < 2 ^ 63) (lk : K.length < 2 ^ 63) (ls : S.length < 2 ^ 63) (lt : T.length < 2 ^ 63) :
    Calls Try.prog 22 #[.string n, .string m, .string s0, .string s1, .bool two, .slice a1 K.length c1, .slice a2 S.length c2, .slice a3 T.length c3] w fun e w' => RB e ∧ w = w' := by
  go_enter Try.func22, Try.ntmps22
  go_wp2
  any_goals (go_ret; exact ⟨⟨false, rfl⟩, rfl⟩)
  go_loop [17, 18] (fun y x => ∃ k mm : Nat, k ≤ K.length ∧ x = .int .i64 k ∧ y = .int .i64 mm ∧ mm ≤ 1048576) (fun _ x => K.length - (intOf x).toNat)
  case atStart => exact ⟨0, n.size + m.size + s0.size + s1.size + K.length, Nat.zero_le _, rfl, by go_num, by omega⟩
  case round =>
    obtain ⟨k, mm, hk, rfl, rfl, hm⟩ := hrel
    by_cases hkl : k < K.length
    · rcases h1 with rfl | ⟨b, o, rfl, h1⟩
      · simp at hkl
      obtain ⟨f0, f1, f2, f3, f4, f5, f6, f7, f8, f9, f10⟩ := zkR (h1.range k hkl)
      generalize K[k] = q at *
      generalize q.rule = q_rule at *
      generalize q.sensor = q_sensor at *
      generalize q.metric = q_metric at *
      generalize q.sev = q_sev at *
      generalize q.state = q_state at *
      by_cases t_rule : 1048576 < q_rule.size
      · go_wp2
        go_ret
        exact ⟨⟨false, rfl⟩, rfl⟩
      by_cases u_rule : 1048576 < mm + q_rule.size
      · go_wp2
        go_ret
        exact ⟨⟨false, rfl⟩, rfl⟩
      by_cases t_sensor : 1048576 < q_sensor.size
      · go_wp2
        go_ret
        exact ⟨⟨false, rfl⟩, rfl⟩
      by_cases u_sensor : 1048576 < mm + q_rule.size + q_sensor.size
      · go_wp2
        go_ret
        exact ⟨⟨false, rfl⟩, rfl⟩
      by_cases t_metric : 1048576 < q_metric.size
      · go_wp2
        go_ret
        exact ⟨⟨false, rfl⟩, rfl⟩
      by_cases u_metric : 1048576 < mm + q_rule.size + q_sensor.size + q_metric.size
      · go_wp2
        go_ret
        exact ⟨⟨false, rfl⟩, rfl⟩
      by_cases t_sev : 1048576 < q_sev.size
      · go_wp2
        go_ret
        exact ⟨⟨false, rfl⟩, rfl⟩
      by_cases u_sev : 1048576 < mm + q_rule.size + q_sensor.size + q_metric.size + q_sev.size
      · go_wp2
        go_ret
        exact ⟨⟨false, rfl⟩, rfl⟩
      by_cases t_state : 1048576 < q_state.size
      · go_wp2
        go_ret
        exact ⟨⟨false, rfl⟩, rfl⟩
      by_cases u_state : 1048576 < mm + q_rule.size + q_sensor.size + q_metric.size + q_sev.size + q_state.size
      · go_wp2
        go_ret
        exact ⟨⟨false, rfl⟩, rfl⟩
      go_wp2
      exact ⟨⟨k + 1, mm + q_rule.size + q_sensor.size + q_metric.size + q_sev.size + q_state.size, by omega, by go_num, by go_num, by omega⟩, by simp [intOf]; omega⟩
    · clear h1
      go_wp2
      any_goals (go_ret; exact ⟨⟨false, rfl⟩, rfl⟩)
      go_loop [17, 19] (fun y x => ∃ k mm : Nat, k ≤ S.length ∧ x = .int .i64 k ∧ y = .int .i64 mm ∧ mm ≤ 1048576) (fun _ x => S.length - (intOf x).toNat)
      case atStart => exact ⟨0, mm + S.length, Nat.zero_le _, rfl, by go_num, by omega⟩
      case round =>
        obtain ⟨k, mm, hk, rfl, rfl, hm⟩ := hrel
        by_cases hkl : k < S.length
        · rcases h2 with rfl | ⟨b, o, rfl, h2⟩
          · simp at hkl
          obtain ⟨f0, f1, f2⟩ := zsR (h2.range k hkl)
          generalize S[k] = q at *
          generalize q.sensor = q_sensor at *
          generalize q.metric = q_metric at *
          by_cases t_sensor : 1048576 < q_sensor.size
          · go_wp2
            go_ret
            exact ⟨⟨false, rfl⟩, rfl⟩
          by_cases u_sensor : 1048576 < mm + q_sensor.size
          · go_wp2
            go_ret
            exact ⟨⟨false, rfl⟩, rfl⟩
          by_cases t_metric : 1048576 < q_metric.size
          · go_wp2
            go_ret
            exact ⟨⟨false, rfl⟩, rfl⟩
          by_cases u_metric : 1048576 < mm + q_sensor.size + q_metric.size
          · go_wp2
            go_ret
            exact ⟨⟨false, rfl⟩, rfl⟩
          go_wp2
          exact ⟨⟨k + 1, mm + q_sensor.size + q_metric.size, by omega, by go_num, by go_num, by omega⟩, by simp [intOf]; omega⟩
        · clear h2
          go_wp2
          any_goals (go_ret; exact ⟨⟨false, rfl⟩, rfl⟩)
          go_loop [17, 20] (fun y x => ∃ k mm : Nat, k ≤ T.length ∧ x = .int .i64 k ∧ y = .int .i64 mm ∧ mm ≤ 1048576) (fun _ x => T.length - (intOf x).toNat)
          case atStart => exact ⟨0, mm + T.length, Nat.zero_le _, rfl, by go_num, by omega⟩
          case round =>
            obtain ⟨k, mm, hk, rfl, rfl, hm⟩ := hrel
            by_cases hkl : k < T.length
            · rcases h3 with rfl | ⟨b, o, rfl, h3⟩
              · simp at hkl
              obtain ⟨f0, f1, f2, f3, f4, f5, f6⟩ := zrR (h3.range k hkl)
              generalize T[k] = q at *
              generalize q.rule = q_rule at *
              generalize q.sev = q_sev at *
              generalize q.sensor = q_sensor at *
              generalize q.metric = q_metric at *
              by_cases t_rule : 1048576 < q_rule.size
              · go_wp2
                go_ret
                exact ⟨⟨false, rfl⟩, rfl⟩
              by_cases u_rule : 1048576 < mm + q_rule.size
              · go_wp2
                go_ret
                exact ⟨⟨false, rfl⟩, rfl⟩
              by_cases t_sev : 1048576 < q_sev.size
              · go_wp2
                go_ret
                exact ⟨⟨false, rfl⟩, rfl⟩
              by_cases u_sev : 1048576 < mm + q_rule.size + q_sev.size
              · go_wp2
                go_ret
                exact ⟨⟨false, rfl⟩, rfl⟩
              by_cases t_sensor : 1048576 < q_sensor.size
              · go_wp2
                go_ret
                exact ⟨⟨false, rfl⟩, rfl⟩
              by_cases u_sensor : 1048576 < mm + q_rule.size + q_sev.size + q_sensor.size
              · go_wp2
                go_ret
                exact ⟨⟨false, rfl⟩, rfl⟩
              by_cases t_metric : 1048576 < q_metric.size
              · go_wp2
                go_ret
                exact ⟨⟨false, rfl⟩, rfl⟩
              by_cases u_metric : 1048576 < mm + q_rule.size + q_sev.size + q_sensor.size + q_metric.size
              · go_wp2
                go_ret
                exact ⟨⟨false, rfl⟩, rfl⟩
              go_wp2
              exact ⟨⟨k + 1, mm + q_rule.size + q_sev.size + q_sensor.size + q_metric.size, by omega, by go_num, by go_num, by omega⟩, by simp [intOf]; omega⟩
            · clear h3
              go_wp2
              go_ret
              exact ⟨⟨true, rfl⟩, rfl⟩
end Go.Proofs.Qxb6605676a.Kz
