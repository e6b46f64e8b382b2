import Derived.Test.Qxb6605845aS16
namespace Go.Proofs.Qxb6605845a.Ec
set_option linter.unusedVariables false
set_option linter.unusedSimpArgs false
open Go.RowKit

def RB (e : Ending) : Prop := ∃ b : Bool, e = .returned (.bool b)

set_option maxHeartbeats 4000000 in
set_option maxRecDepth 100000 in
/-- The program's own bound: it returns some bool, and nothing turns. -/
theorem zzbytes18 (kind : Int) (site : ByteArray) (node : Int) (idSeq : Int) (pao : Option Addr) (pn pc : Nat) (ticket : Int) (L1 L2 L3 L4 : List ByteArray) (L5 : List (Option (List UInt8))) (a1 a2 a3 a4 a5 : Option Addr) (c1 c2 c3 c4 c5 : Nat) (seq : Int) (w : World)
    (h1 : SArg w a1 L1) (h2 : SArg w a2 L2) (h3 : SArg w a3 L3) (h4 : SArg w a4 L4) (h5 : VArg w a5 L5) (hs : site.size < 2 ^ 63) (hp : pn < 2 ^ 63) (l1 : L1.length < 2 ^ 63) (l2 : L2.length < 2 ^ 63) (l3 : L3.length < 2 ^ 63) (l4 : L4.length < 2 ^ 63) (l5 : L5.length < 2 ^ 63) :
    Calls Try.prog 18 #[.int .u8 kind, .string site, .int .i64 node, .int .u64 idSeq, .slice pao pn pc, .int .u64 ticket, .slice a1 L1.length c1, .slice a2 L2.length c2, .slice a3 L3.length c3, .slice a4 L4.length c4, .slice a5 L5.length c5, .int .u64 seq] w fun e w' => RB e ∧ w = w' := by
  go_enter Try.func18, Try.ntmps18
  go_wp2
  any_goals (go_ret; exact ⟨⟨false, rfl⟩, rfl⟩)
  go_loop [25, 26] (fun n x => ∃ k m : Nat, k ≤ L1.length ∧ x = .int .i64 k ∧ n = .int .i64 m ∧ m ≤ 1048576) (fun _ x => L1.length - (intOf x).toNat)
  case atStart => exact ⟨0, site.size + pn + L1.length, Nat.zero_le _, rfl, by go_num, by omega⟩
  case round =>
    obtain ⟨k, m, hk, rfl, rfl, hm⟩ := hrel
    by_cases hkl : k < L1.length
    · rcases h1 with rfl | ⟨b, o, rfl, h1⟩
      · simp at hkl
      have g0 := h1 k L1[k] (by simp [hkl])
      generalize L1[k] = s at *
      by_cases q1 : 1048576 < s.size
      · go_wp2
        go_ret
        exact ⟨⟨false, rfl⟩, rfl⟩
      · by_cases q2 : 1048576 < m + s.size
        · go_wp2
          go_ret
          exact ⟨⟨false, rfl⟩, rfl⟩
        · go_wp2
          exact ⟨⟨k + 1, m + s.size, by omega, by go_num, by go_num, by omega⟩, by simp [intOf]; omega⟩
    · clear h1
      go_wp2
      any_goals (go_ret; exact ⟨⟨false, rfl⟩, rfl⟩)
      go_loop [25, 27] (fun n x => ∃ k m : Nat, k ≤ L2.length ∧ x = .int .i64 k ∧ n = .int .i64 m ∧ m ≤ 1048576) (fun _ x => L2.length - (intOf x).toNat)
      case atStart => exact ⟨0, m + L2.length, Nat.zero_le _, rfl, by go_num, by omega⟩
      case round =>
        obtain ⟨k, m, hk, rfl, rfl, hm⟩ := hrel
        by_cases hkl : k < L2.length
        · rcases h2 with rfl | ⟨b, o, rfl, h2⟩
          · simp at hkl
          have g0 := h2 k L2[k] (by simp [hkl])
          generalize L2[k] = s at *
          by_cases q1 : 1048576 < s.size
          · go_wp2
            go_ret
            exact ⟨⟨false, rfl⟩, rfl⟩
          · by_cases q2 : 1048576 < m + s.size
            · go_wp2
              go_ret
              exact ⟨⟨false, rfl⟩, rfl⟩
            · go_wp2
              exact ⟨⟨k + 1, m + s.size, by omega, by go_num, by go_num, by omega⟩, by simp [intOf]; omega⟩
        · clear h2
          go_wp2
          any_goals (go_ret; exact ⟨⟨false, rfl⟩, rfl⟩)
          go_loop [25, 28] (fun n x => ∃ k m : Nat, k ≤ L3.length ∧ x = .int .i64 k ∧ n = .int .i64 m ∧ m ≤ 1048576) (fun _ x => L3.length - (intOf x).toNat)
          case atStart => exact ⟨0, m + L3.length, Nat.zero_le _, rfl, by go_num, by omega⟩
          case round =>
            obtain ⟨k, m, hk, rfl, rfl, hm⟩ := hrel
            by_cases hkl : k < L3.length
            · rcases h3 with rfl | ⟨b, o, rfl, h3⟩
              · simp at hkl
              have g0 := h3 k L3[k] (by simp [hkl])
              generalize L3[k] = s at *
              by_cases q1 : 1048576 < s.size
              · go_wp2
                go_ret
                exact ⟨⟨false, rfl⟩, rfl⟩
              · by_cases q2 : 1048576 < m + s.size
                · go_wp2
                  go_ret
                  exact ⟨⟨false, rfl⟩, rfl⟩
                · go_wp2
                  exact ⟨⟨k + 1, m + s.size, by omega, by go_num, by go_num, by omega⟩, by simp [intOf]; omega⟩
            · clear h3
              go_wp2
              any_goals (go_ret; exact ⟨⟨false, rfl⟩, rfl⟩)
              go_loop [25, 29] (fun n x => ∃ k m : Nat, k ≤ L4.length ∧ x = .int .i64 k ∧ n = .int .i64 m ∧ m ≤ 1048576) (fun _ x => L4.length - (intOf x).toNat)
              case atStart => exact ⟨0, m + L4.length, Nat.zero_le _, rfl, by go_num, by omega⟩
              case round =>
                obtain ⟨k, m, hk, rfl, rfl, hm⟩ := hrel
                by_cases hkl : k < L4.length
                · rcases h4 with rfl | ⟨b, o, rfl, h4⟩
                  · simp at hkl
                  have g0 := h4 k L4[k] (by simp [hkl])
                  generalize L4[k] = s at *
                  by_cases q1 : 1048576 < s.size
                  · go_wp2
                    go_ret
                    exact ⟨⟨false, rfl⟩, rfl⟩
                  · by_cases q2 : 1048576 < m + s.size
                    · go_wp2
                      go_ret
                      exact ⟨⟨false, rfl⟩, rfl⟩
                    · go_wp2
                      exact ⟨⟨k + 1, m + s.size, by omega, by go_num, by go_num, by omega⟩, by simp [intOf]; omega⟩
                · clear h4
                  go_wp2
                  any_goals (go_ret; exact ⟨⟨false, rfl⟩, rfl⟩)
                  go_loop [25, 30] (fun n x => ∃ k m : Nat, k ≤ L5.length ∧ x = .int .i64 k ∧ n = .int .i64 m ∧ m ≤ 1048576) (fun _ x => L5.length - (intOf x).toNat)
                  case atStart => exact ⟨0, m + L5.length, Nat.zero_le _, rfl, by go_num, by omega⟩
                  case round =>
                    obtain ⟨k, m, hk, rfl, rfl, hm⟩ := hrel
                    by_cases hkl : k < L5.length
                    · rcases h5 with rfl | ⟨b, o, rfl, h5⟩
                      · simp at hkl
                      obtain ⟨v, g0, hv⟩ := h5 k L5[k] (by simp [hkl])
                      obtain ⟨va, vc, rfl⟩ := hv.form
                      clear hv
                      generalize bsz L5[k] = s at *
                      by_cases q1 : 1048576 < s
                      · go_wp2
                        go_ret
                        exact ⟨⟨false, rfl⟩, rfl⟩
                      · by_cases q2 : 1048576 < m + s
                        · go_wp2
                          go_ret
                          exact ⟨⟨false, rfl⟩, rfl⟩
                        · go_wp2
                          exact ⟨⟨k + 1, m + s, by omega, by go_num, by go_num, by omega⟩, by simp [intOf]; omega⟩
                    · clear h5
                      go_wp2
                      go_ret
                      exact ⟨⟨true, rfl⟩, rfl⟩
end Go.Proofs.Qxb6605845a.Ec
