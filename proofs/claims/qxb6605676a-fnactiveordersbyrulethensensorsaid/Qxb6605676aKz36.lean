import Derived.Test.Qxb6605676aKz8
namespace Go.Proofs.Qxb6605676a.Kz
set_option linter.unusedVariables false
set_option linter.unusedSimpArgs false
open Go.RowKit Go.Proofs.Qxb6605676a.Mp Go.Proofs.Qxb6605676a.Tm Go.Proofs.Qxb6605676a.En

/-- An integer comes back, whichever. -/
def RI (e : Ending) : Prop := ∃ x : Int, e = .returned (.int .i64 x)

set_option maxHeartbeats 2000000 in
theorem zzkeysBytes_ri (L : List ZK) (ao : Option Addr) (cap : Nat) (w : World) (hA : L = [] ∨ ∃ kb o, ao = some ⟨kb, o, none⟩ ∧ KeysAt w kb o L) (hl : L.length ≤ 4096) :
    Calls Try.prog 12 #[.slice ao L.length cap] w fun e w' => RI e ∧ Below w.heap.size w w' := by
  go_enter Try.func12, Try.ntmps12
  go_wp2
  go_loopw [3, 4] (fun n x wr => ∃ (k : Nat) (m : Int), k ≤ L.length ∧ x = .int .i64 k ∧ n = .int .i64 m ∧ Below w.heap.size w wr) (fun _ x _ => L.length - (intOf x).toNat)
  case atStart => exact ⟨0, _, Nat.zero_le _, rfl, rfl, Below.refl _ _⟩
  case round =>
    obtain ⟨k, m, hk, rfl, rfl, hb⟩ := hrel
    by_cases hkl : k < L.length
    · rcases hA with h0 | ⟨kb, o, rfl, hL⟩
      · rw [h0] at hkl; simp at hkl
      have hL' := (hL.below hb) k L[k] (by simp [hkl])
      generalize L[k] = q at *
      have c0 : wr.cell? ⟨kb, o + k * 11, none⟩ = some (.string q.rule) := by simpa using hL' 0 _ rfl
      have c1 : wr.cell? ⟨kb, o + k * 11 + 1, none⟩ = some (.string q.sensor) := by simpa using hL' 1 _ rfl
      have c2 : wr.cell? ⟨kb, o + k * 11 + 2, none⟩ = some (.string q.metric) := by simpa using hL' 2 _ rfl
      have c3 : wr.cell? ⟨kb, o + k * 11 + 3, none⟩ = some (.string q.sev) := by simpa using hL' 3 _ rfl
      have c4 : wr.cell? ⟨kb, o + k * 11 + 4, none⟩ = some (.string q.state) := by simpa using hL' 4 _ rfl
      clear hL' hL
      go_wp2
      go_quiet (fail)
      go_wp2
      have hbq : Below w.heap.size w (wr.drewN nq) := hb.trans ⟨rfl, rfl, rfl, Nat.le_refl _, fun _ _ => rfl⟩
      exact ⟨⟨k + 1, _, by omega, by go_num, rfl, hbq⟩, by simp [intOf]; omega⟩
    · go_wp2
      go_ret
      exact ⟨⟨_, rfl⟩, hb⟩

set_option maxHeartbeats 2000000 in
theorem zzseriesBytes_ri (L : List ZS) (ao : Option Addr) (cap : Nat) (w : World) (hA : L = [] ∨ ∃ kb o, ao = some ⟨kb, o, none⟩ ∧ SeriesAt w kb o L) (hl : L.length ≤ 4096) :
    Calls Try.prog 23 #[.slice ao L.length cap] w fun e w' => RI e ∧ Below w.heap.size w w' := by
  go_enter Try.func23, Try.ntmps23
  go_wp2
  go_loopw [3, 4] (fun n x wr => ∃ (k : Nat) (m : Int), k ≤ L.length ∧ x = .int .i64 k ∧ n = .int .i64 m ∧ Below w.heap.size w wr) (fun _ x _ => L.length - (intOf x).toNat)
  case atStart => exact ⟨0, _, Nat.zero_le _, rfl, rfl, Below.refl _ _⟩
  case round =>
    obtain ⟨k, m, hk, rfl, rfl, hb⟩ := hrel
    by_cases hkl : k < L.length
    · rcases hA with h0 | ⟨kb, o, rfl, hL⟩
      · rw [h0] at hkl; simp at hkl
      have hL' := (hL.below hb) k L[k] (by simp [hkl])
      generalize L[k] = q at *
      have c0 : wr.cell? ⟨kb, o + k * 3, none⟩ = some (.string q.sensor) := by simpa using hL' 0 _ rfl
      have c1 : wr.cell? ⟨kb, o + k * 3 + 1, none⟩ = some (.string q.metric) := by simpa using hL' 1 _ rfl
      clear hL' hL
      go_wp2
      go_quiet (fail)
      go_wp2
      have hbq : Below w.heap.size w (wr.drewN nq) := hb.trans ⟨rfl, rfl, rfl, Nat.le_refl _, fun _ _ => rfl⟩
      exact ⟨⟨k + 1, _, by omega, by go_num, rfl, hbq⟩, by simp [intOf]; omega⟩
    · go_wp2
      go_ret
      exact ⟨⟨_, rfl⟩, hb⟩

set_option maxHeartbeats 2000000 in
theorem zzraisedBytes_ri (L : List ZR) (ao : Option Addr) (cap : Nat) (w : World) (hA : L = [] ∨ ∃ kb o, ao = some ⟨kb, o, none⟩ ∧ RaisedAt w kb o L) (hl : L.length ≤ 4096) :
    Calls Try.prog 24 #[.slice ao L.length cap] w fun e w' => RI e ∧ Below w.heap.size w w' := by
  go_enter Try.func24, Try.ntmps24
  go_wp2
  go_loopw [3, 4] (fun n x wr => ∃ (k : Nat) (m : Int), k ≤ L.length ∧ x = .int .i64 k ∧ n = .int .i64 m ∧ Below w.heap.size w wr) (fun _ x _ => L.length - (intOf x).toNat)
  case atStart => exact ⟨0, _, Nat.zero_le _, rfl, rfl, Below.refl _ _⟩
  case round =>
    obtain ⟨k, m, hk, rfl, rfl, hb⟩ := hrel
    by_cases hkl : k < L.length
    · rcases hA with h0 | ⟨kb, o, rfl, hL⟩
      · rw [h0] at hkl; simp at hkl
      have hL' := (hL.below hb) k L[k] (by simp [hkl])
      generalize L[k] = q at *
      have c0 : wr.cell? ⟨kb, o + k * 7, none⟩ = some (.string q.rule) := by simpa using hL' 0 _ rfl
      have c1 : wr.cell? ⟨kb, o + k * 7 + 1, none⟩ = some (.string q.sev) := by simpa using hL' 1 _ rfl
      have c2 : wr.cell? ⟨kb, o + k * 7 + 2, none⟩ = some (.string q.sensor) := by simpa using hL' 2 _ rfl
      have c3 : wr.cell? ⟨kb, o + k * 7 + 3, none⟩ = some (.string q.metric) := by simpa using hL' 3 _ rfl
      clear hL' hL
      go_wp2
      go_quiet (fail)
      go_wp2
      have hbq : Below w.heap.size w (wr.drewN nq) := hb.trans ⟨rfl, rfl, rfl, Nat.le_refl _, fun _ _ => rfl⟩
      exact ⟨⟨k + 1, _, by omega, by go_num, rfl, hbq⟩, by simp [intOf]; omega⟩
    · go_wp2
      go_ret
      exact ⟨⟨_, rfl⟩, hb⟩

end Go.Proofs.Qxb6605676a.Kz
