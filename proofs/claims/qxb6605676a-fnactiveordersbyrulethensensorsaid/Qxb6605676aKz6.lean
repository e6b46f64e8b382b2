import Derived.Test.Qxb6605676aKz5
namespace Go.Proofs.Qxb6605676a.Kz
set_option linter.unusedVariables false
set_option linter.unusedSimpArgs false
open Go.RowKit Go.Proofs.Qxb6605676a.Mp Go.Proofs.Qxb6605676a.Tm Go.Proofs.Qxb6605676a.En

/-- A ZSeries as plain data. -/
structure ZS where
  sensor : ByteArray
  metric : ByteArray
  last : Int
def zsCells (k : ZS) : List Value := [.string k.sensor, .string k.metric, .int .i64 k.last]
def SeriesAt (w : World) (b o : Nat) (L : List ZS) : Prop := ∀ j k, L[j]? = some k → ∀ c v, (zsCells k)[c]? = some v → w.cell? ⟨b, o + j * 3 + c, none⟩ = some v
theorem SeriesAt.below {w w' : World} {b o : Nat} {L : List ZS} (h : SeriesAt w b o L) (hb : Below w.heap.size w w') : SeriesAt w' b o L := by
  intro j k hk c v hv
  have := h j k hk c v hv
  rw [hb.cell (World.block_lt_of_cell? w _ this)]; exact this

/-- A ZRaised as plain data. -/
structure ZR where
  rule : ByteArray
  sev : ByteArray
  sensor : ByteArray
  metric : ByteArray
  ts : Int
  val : Nat
  raised : Int
def zrCells (k : ZR) : List Value := [.string k.rule, .string k.sev, .string k.sensor, .string k.metric, .int .i64 k.ts, .float .f64 k.val, .int .i64 k.raised]
def RaisedAt (w : World) (b o : Nat) (L : List ZR) : Prop := ∀ j k, L[j]? = some k → ∀ c v, (zrCells k)[c]? = some v → w.cell? ⟨b, o + j * 7 + c, none⟩ = some v
theorem RaisedAt.below {w w' : World} {b o : Nat} {L : List ZR} (h : RaisedAt w b o L) (hb : Below w.heap.size w w') : RaisedAt w' b o L := by
  intro j k hk c v hv
  have := h j k hk c v hv
  rw [hb.cell (World.block_lt_of_cell? w _ this)]; exact this

def ZS.bytes (k : ZS) : Nat := k.sensor.size + k.metric.size
def ssum : List ZS → Nat
  | [] => 0
  | k :: L => k.bytes + ssum L
theorem ssum_drop (L : List ZS) (k : Nat) (h : k < L.length) : ssum (L.drop k) = L[k].bytes + ssum (L.drop (k + 1)) := by
  rw [List.drop_eq_getElem_cons h]; rfl
def ZR.bytes (k : ZR) : Nat := k.rule.size + k.sev.size + k.sensor.size + k.metric.size
def rsum : List ZR → Nat
  | [] => 0
  | k :: L => k.bytes + rsum L
theorem rsum_drop (L : List ZR) (k : Nat) (h : k < L.length) : rsum (L.drop k) = L[k].bytes + rsum (L.drop (k + 1)) := by
  rw [List.drop_eq_getElem_cons h]; rfl

set_option maxHeartbeats 1000000 in
theorem zzseriesBytes_some (L : List ZS) (kb o cap : Nat) (w : World) (hL : SeriesAt w kb o L) (hl : L.length ≤ 4096) (hs : ssum L ≤ 1048576) :
    Calls Try.prog 23 #[.slice (some ⟨kb, o, none⟩) L.length cap] w fun e w' => e = .returned (.int .i64 (8 * L.length + ssum L : Nat)) ∧ Below w.heap.size w w' := by
  go_enter Try.func23, Try.ntmps23
  go_wp2
  go_loopw [3, 4] (fun n x wr => ∃ (k m : Nat), k ≤ L.length ∧ x = .int .i64 k ∧ n = .int .i64 m ∧ Below w.heap.size w wr ∧ m + ssum (L.drop k) = 8 * L.length + ssum L) (fun _ x _ => L.length - (intOf x).toNat)
  case atStart => exact ⟨0, 8 * L.length, Nat.zero_le _, rfl, by go_num, Below.refl _ _, by simp⟩
  case round =>
    obtain ⟨k, m, hk, rfl, rfl, hb, hv⟩ := hrel
    by_cases hkl : k < L.length
    · have hL' := (hL.below hb) k L[k] (by simp [hkl])
      rw [ssum_drop L k hkl] at hv
      generalize L[k] = q at *
      unfold ZS.bytes at hv
      have c0 : wr.cell? ⟨kb, o + k * 3, none⟩ = some (.string q.sensor) := by simpa using hL' 0 _ rfl
      have c1 : wr.cell? ⟨kb, o + k * 3 + 1, none⟩ = some (.string q.metric) := by simpa using hL' 1 _ rfl
      clear hL' hL
      go_wp2
      go_quiet (fail)
      go_wp2
      have hbq : Below w.heap.size w (wr.drewN nq) := hb.trans ⟨rfl, rfl, rfl, Nat.le_refl _, fun _ _ => rfl⟩
      exact ⟨⟨k + 1, m + (q.sensor.size + q.metric.size), by omega, by go_num, by go_num, hbq, by omega⟩, by simp [intOf]; omega⟩
    · go_wp2
      go_ret
      have hd : L.drop k = [] := List.drop_eq_nil_of_le (by omega)
      rw [hd] at hv
      exact ⟨ret_int (by simp [ssum] at hv; omega), hb⟩

set_option maxHeartbeats 400000 in
theorem zzseriesBytes_none (a : Option Addr) (cap : Nat) (w : World) :
    Calls Try.prog 23 #[.slice a 0 cap] w fun e w' => e = .returned (.int .i64 0) ∧ Below w.heap.size w w' := by
  go_enter Try.func23, Try.ntmps23
  go_wp2
  refine wp_loop_rounds 1 ?_
  rw [rounds_succ]
  go_wp2
  go_ret
  exact ⟨rfl, Below.refl _ _⟩
set_option maxHeartbeats 1000000 in
theorem zzraisedBytes_some (L : List ZR) (kb o cap : Nat) (w : World) (hL : RaisedAt w kb o L) (hl : L.length ≤ 4096) (hs : rsum L ≤ 1048576) :
    Calls Try.prog 24 #[.slice (some ⟨kb, o, none⟩) L.length cap] w fun e w' => e = .returned (.int .i64 (8 * L.length + rsum L : Nat)) ∧ Below w.heap.size w w' := by
  go_enter Try.func24, Try.ntmps24
  go_wp2
  go_loopw [3, 4] (fun n x wr => ∃ (k m : Nat), k ≤ L.length ∧ x = .int .i64 k ∧ n = .int .i64 m ∧ Below w.heap.size w wr ∧ m + rsum (L.drop k) = 8 * L.length + rsum L) (fun _ x _ => L.length - (intOf x).toNat)
  case atStart => exact ⟨0, 8 * L.length, Nat.zero_le _, rfl, by go_num, Below.refl _ _, by simp⟩
  case round =>
    obtain ⟨k, m, hk, rfl, rfl, hb, hv⟩ := hrel
    by_cases hkl : k < L.length
    · have hL' := (hL.below hb) k L[k] (by simp [hkl])
      rw [rsum_drop L k hkl] at hv
      generalize L[k] = q at *
      unfold ZR.bytes at hv
      have c0 : wr.cell? ⟨kb, o + k * 7, none⟩ = some (.string q.rule) := by simpa using hL' 0 _ rfl
      have c1 : wr.cell? ⟨kb, o + k * 7 + 1, none⟩ = some (.string q.sev) := by simpa using hL' 1 _ rfl
      have c2 : wr.cell? ⟨kb, o + k * 7 + 2, none⟩ = some (.string q.sensor) := by simpa using hL' 2 _ rfl
      have c3 : wr.cell? ⟨kb, o + k * 7 + 3, none⟩ = some (.string q.metric) := by simpa using hL' 3 _ rfl
      clear hL' hL
      go_wp2
      go_quiet (fail)
      go_wp2
      have hbq : Below w.heap.size w (wr.drewN nq) := hb.trans ⟨rfl, rfl, rfl, Nat.le_refl _, fun _ _ => rfl⟩
      exact ⟨⟨k + 1, m + (q.rule.size + q.sev.size + q.sensor.size + q.metric.size), by omega, by go_num, by go_num, hbq, by omega⟩, by simp [intOf]; omega⟩
    · go_wp2
      go_ret
      have hd : L.drop k = [] := List.drop_eq_nil_of_le (by omega)
      rw [hd] at hv
      exact ⟨ret_int (by simp [rsum] at hv; omega), hb⟩

set_option maxHeartbeats 400000 in
theorem zzraisedBytes_none (a : Option Addr) (cap : Nat) (w : World) :
    Calls Try.prog 24 #[.slice a 0 cap] w fun e w' => e = .returned (.int .i64 0) ∧ Below w.heap.size w w' := by
  go_enter Try.func24, Try.ntmps24
  go_wp2
  refine wp_loop_rounds 1 ?_
  rw [rounds_succ]
  go_wp2
  go_ret
  exact ⟨rfl, Below.refl _ _⟩
end Go.Proofs.Qxb6605676a.Kz
