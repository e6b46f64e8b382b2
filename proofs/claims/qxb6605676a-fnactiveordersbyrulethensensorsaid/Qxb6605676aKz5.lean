import Derived.Test.Qxb6605676aKz4
namespace Go.Proofs.Qxb6605676a.Kz
set_option linter.unusedVariables false
set_option linter.unusedSimpArgs false
open Go.RowKit Go.Proofs.Qxb6605676a.Mp Go.Proofs.Qxb6605676a.Tm Go.Proofs.Qxb6605676a.En

def ZK.bytes (k : ZK) : Nat := k.rule.size + k.sensor.size + k.metric.size + k.sev.size + k.state.size
def ksum : List ZK → Nat
  | [] => 0
  | k :: L => k.bytes + ksum L
theorem ksum_drop (L : List ZK) (k : Nat) (h : k < L.length) : ksum (L.drop k) = L[k].bytes + ksum (L.drop (k + 1)) := by
  rw [List.drop_eq_getElem_cons h]; rfl

set_option maxHeartbeats 1000000 in
theorem zzkeysBytes_some (L : List ZK) (kb o cap : Nat) (w : World) (hL : KeysAt w kb o L) (hl : L.length ≤ 4096) (hs : ksum L ≤ 1048576) :
    Calls Try.prog 12 #[.slice (some ⟨kb, o, none⟩) L.length cap] w fun e w' => e = .returned (.int .i64 (8 * L.length + ksum L : Nat)) ∧ Below w.heap.size w w' := by
  go_enter Try.func12, Try.ntmps12
  go_wp2
  go_loopw [3, 4] (fun n x wr => ∃ (k m : Nat), k ≤ L.length ∧ x = .int .i64 k ∧ n = .int .i64 m ∧ Below w.heap.size w wr ∧ m + ksum (L.drop k) = 8 * L.length + ksum L) (fun _ x _ => L.length - (intOf x).toNat)
  case atStart => exact ⟨0, 8 * L.length, Nat.zero_le _, rfl, by go_num, Below.refl _ _, by simp⟩
  case round =>
    obtain ⟨k, m, hk, rfl, rfl, hb, hv⟩ := hrel
    by_cases hkl : k < L.length
    · have hL' := (hL.below hb) k L[k] (by simp [hkl])
      rw [ksum_drop L k hkl] at hv
      generalize L[k] = q at *
      unfold ZK.bytes at hv
      have c0 : wr.cell? ⟨kb, o + k * 11, none⟩ = some (.string q.rule) := by simpa using hL' 0 _ rfl
      have c1 : wr.cell? ⟨kb, o + k * 11 + 1, none⟩ = some (.string q.sensor) := by simpa using hL' 1 _ rfl
      have c2 : wr.cell? ⟨kb, o + k * 11 + 2, none⟩ = some (.string q.metric) := by simpa using hL' 2 _ rfl
      have c3 : wr.cell? ⟨kb, o + k * 11 + 3, none⟩ = some (.string q.sev) := by simpa using hL' 3 _ rfl
      have c4 : wr.cell? ⟨kb, o + k * 11 + 4, none⟩ = some (.string q.state) := by simpa using hL' 4 _ rfl
      clear hL' hL
      go_wp2
      go_quiet (fail)
      go_wp2
      have hbq : Below w.heap.size w (wr.drewN nq) := hb.trans ⟨rfl, rfl, rfl, Nat.le_refl _, fun _ _ => rfl⟩
      exact ⟨⟨k + 1, m + (q.rule.size + q.sensor.size + q.metric.size + q.sev.size + q.state.size), by omega, by go_num, by go_num, hbq, by omega⟩, by simp [intOf]; omega⟩
    · go_wp2
      go_ret
      have hd : L.drop k = [] := List.drop_eq_nil_of_le (by omega)
      rw [hd] at hv
      exact ⟨ret_int (by simp [ksum] at hv; omega), hb⟩

set_option maxHeartbeats 400000 in
theorem zzkeysBytes_none (a : Option Addr) (cap : Nat) (w : World) :
    Calls Try.prog 12 #[.slice a 0 cap] w fun e w' => e = .returned (.int .i64 0) ∧ Below w.heap.size w w' := by
  go_enter Try.func12, Try.ntmps12
  go_wp2
  refine wp_loop_rounds 1 ?_
  rw [rounds_succ]
  go_wp2
  go_ret
  exact ⟨rfl, Below.refl _ _⟩
end Go.Proofs.Qxb6605676a.Kz
