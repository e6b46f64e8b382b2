import Derived.Test.Qxb6605676aKz2
import Derived.BigQuiet
namespace Go.Proofs.Qxb6605676a.Kz
set_option linter.unusedVariables false
set_option linter.unusedSimpArgs false
open Go.RowKit Go.Proofs.Qxb6605676a.Mp Go.Proofs.Qxb6605676a.Tm Go.Proofs.Qxb6605676a.En

/-- A ZKey as plain data. -/
structure ZK where
  rule : ByteArray
  sensor : ByteArray
  metric : ByteArray
  sev : ByteArray
  state : ByteArray
  since : Int
  lts : Int
  val : Nat
  cl : Bool
  cs : Int
  cool : Int

def zkCells (k : ZK) : List Value := [.string k.rule, .string k.sensor, .string k.metric, .string k.sev, .string k.state, .int .i64 k.since, .int .i64 k.lts, .float .f64 k.val, .bool k.cl, .int .i64 k.cs, .int .i64 k.cool]

/-- The keys L lie in block b, from cell o on. -/
def KeysAt (w : World) (b o : Nat) (L : List ZK) : Prop := ∀ j k, L[j]? = some k → ∀ c v, (zkCells k)[c]? = some v → w.cell? ⟨b, o + j * 11 + c, none⟩ = some v

theorem RulesAt.below {w w' : World} {rb : Nat} {R : List RuleD} (h : RulesAt w rb R) (hb : Below w.heap.size w w') : RulesAt w' rb R := by
  intro i r hr
  obtain ⟨h0, h1, sb, h2, h3⟩ := h i r hr
  refine ⟨by rw [hb.cell (World.block_lt_of_cell? w _ h0)]; exact h0, by rw [hb.cell (World.block_lt_of_cell? w _ h1)]; exact h1, sb, by rw [hb.cell (World.block_lt_of_cell? w _ h2)]; exact h2, fun j s hs => by rw [hb.cell (World.block_lt_of_cell? w _ (h3 j s hs))]; exact h3 j s hs⟩

theorem KeysAt.below {w w' : World} {b o : Nat} {L : List ZK} (h : KeysAt w b o L) (hb : Below w.heap.size w w') : KeysAt w' b o L := by
  intro j k hk c v hv
  have := h j k hk c v hv
  rw [hb.cell (World.block_lt_of_cell? w _ this)]; exact this

/-- The last place below k that p takes, or -1. -/
def lastTo (p : Nat → Bool) : Nat → Int
  | 0 => -1
  | k + 1 => if p k then (k : Int) else lastTo p k

def noKey : ZK := ⟨⟨#[]⟩, ⟨#[]⟩, ⟨#[]⟩, ⟨#[]⟩, ⟨#[]⟩, 0, 0, 0, false, 0, 0⟩
def okB : ByteArray := ⟨#[79, 75]⟩
theorem okB_list : okB.toList = [79, 75] := by kernel_rfl

/-- Does the key state j stand, not OK, at level l of rule i and the sensor? -/
def alarmAt (R : List RuleD) (L : List ZK) (i l : Int) (s : ByteArray) (j : Nat) : Bool :=
  ((L.getD j noKey).sensor.toList == s.toList) && !((L.getD j noKey).state.toList == okB.toList) && ((mtc R (L.getD j noKey).rule (L.getD j noKey).metric (L.getD j noKey).sev).1 == i) && ((mtc R (L.getD j noKey).rule (L.getD j noKey).metric (L.getD j noKey).sev).2 == l)

set_option maxHeartbeats 1000000 in
theorem zzlastAlarm_some (R : List RuleD) (L : List ZK) (i l : Int) (s : ByteArray) (rb kb : Nat) (w : World) (hR : RulesAt w rb R) (hlen : R.length ≤ 1000) (hsl : ∀ r ∈ R, r.sevs.length ≤ 1000) (hL : KeysAt w kb 0 L) (hl : L.length ≤ 4096) (cap : Nat) :
    Calls Try.prog 70 #[.slice (some ⟨rb, 0, none⟩) R.length R.length, .slice (some ⟨kb, 0, none⟩) L.length cap, .int .i64 i, .int .i64 l, .string s] w fun e w' => e = .returned (.int .i64 (lastTo (alarmAt R L i l s) L.length)) ∧ Below w.heap.size w w' := by
  go_enter Try.func70, Try.ntmps70
  go_wp2
  go_loopw [11] (fun x wr => ∃ k : Nat, k ≤ L.length ∧ x = .int .i64 ((k : Int) - 1) ∧ Below w.heap.size w wr ∧ lastTo (alarmAt R L i l s) L.length = lastTo (alarmAt R L i l s) k) (fun x _ => (intOf x + 1).toNat)
  case atStart => exact ⟨L.length, Nat.le_refl _, rfl, Below.refl _ _, rfl⟩
  case round =>
    obtain ⟨k, hk, rfl, hb, hv⟩ := hrel
    cases k with
    | zero =>
      go_wp2
      go_ret
      exact ⟨ret_int (by rw [hv]; rfl), hb⟩
    | succ k =>
      have e1 : ((k + 1 : Nat) : Int) - 1 = (k : Int) := by omega
      rw [e1]
      clear e1
      have hkl : k < L.length := by omega
      have hR' := hR.below hb
      have hL' := (hL.below hb) k L[k] (by simp [hkl])
      have hA : alarmAt R L i l s k = ((L[k].sensor.toList == s.toList) && !(L[k].state.toList == okB.toList) && ((mtc R L[k].rule L[k].metric L[k].sev).1 == i) && ((mtc R L[k].rule L[k].metric L[k].sev).2 == l)) := by
        simp [alarmAt, List.getD, hkl]
      have hv' : lastTo (alarmAt R L i l s) (k + 1) = if alarmAt R L i l s k then (k : Int) else lastTo (alarmAt R L i l s) k := rfl
      rw [hv', hA] at hv
      clear hv' hA
      generalize L[k] = q at *
      have c0 : wr.cell? ⟨kb, k * 11, none⟩ = some (.string q.rule) := by simpa using hL' 0 _ rfl
      have c1 : wr.cell? ⟨kb, k * 11 + 1, none⟩ = some (.string q.sensor) := by simpa using hL' 1 _ rfl
      have c2 : wr.cell? ⟨kb, k * 11 + 2, none⟩ = some (.string q.metric) := by simpa using hL' 2 _ rfl
      have c3 : wr.cell? ⟨kb, k * 11 + 3, none⟩ = some (.string q.sev) := by simpa using hL' 3 _ rfl
      have c4 : wr.cell? ⟨kb, k * 11 + 4, none⟩ = some (.string q.state) := by simpa using hL' 4 _ rfl
      have HV : Hid (lastTo (alarmAt R L i l s) L.length = if ((q.sensor.toList == s.toList) && !(q.state.toList == okB.toList) && ((mtc R q.rule q.metric q.sev).1 == i) && ((mtc R q.rule q.metric q.sev).2 == l)) then (k : Int) else lastTo (alarmAt R L i l s) k) := hv
      have HMA : Hid (∀ W, Below wr.heap.size wr W → Calls Try.prog 68 #[.slice (some ⟨rb, 0, none⟩) R.length R.length, .string q.rule, .string q.metric, .string q.sev] W fun e w' => e = .returned (.tuple #[.int .i64 (mtc R q.rule q.metric q.sev).1, .int .i64 (mtc R q.rule q.metric q.sev).2]) ∧ W = w') :=
        fun W hW => zzmatch_any R q.rule q.metric q.sev rb W (hR'.below hW) hlen hsl
      clear hv hL' hR' hR hsl hL
      generalize mtc R q.rule q.metric q.sev = mm at *
      cases hs : (q.sensor.toList == s.toList)
      · have hs' : ¬ q.sensor.toList = s.toList := by simpa using hs
        go_wp2
        go_roundw
        case rel => exact ⟨k, by omega, by go_num, hb, by rw [HV.out, hs]; simp⟩
        case measure => simp [intOf]
      · have hs' : q.sensor.toList = s.toList := by simpa using hs
        cases ho : (q.state.toList == okB.toList)
        · have ho' := ho
          rw [okB_list] at ho'
          go_wp2
          go_quiet (first | (go_at_call 68; refine Calls.quiet_of_same (Calls.mono (HMA.out _ ⟨rfl, rfl, rfl, Nat.le_refl _, fun _ _ => rfl⟩) fun e w' h => ⟨h.1, h.2.symm⟩)))
          have hbq : Below w.heap.size w (wr.drewN nq) := hb.trans ⟨rfl, rfl, rfl, Nat.le_refl _, fun _ _ => rfl⟩
          cases h1 : (mm.1 == i)
          · go_wp2
            go_roundw
            case rel => exact ⟨k, by omega, by go_num, hbq, by rw [HV.out, hs, ho, h1]; simp⟩
            case measure => simp [intOf]
          · cases h2 : (mm.2 == l)
            · go_wp2
              go_roundw
              case rel => exact ⟨k, by omega, by go_num, hbq, by rw [HV.out, hs, ho, h1, h2]; simp⟩
              case measure => simp [intOf]
            · go_wp2
              go_ret
              exact ⟨ret_int (by rw [HV.out, hs, ho, h1, h2]; simp), hbq⟩
        · have ho' := ho
          rw [okB_list] at ho'
          go_wp2
          go_roundw
          case rel => exact ⟨k, by omega, by go_num, hb, by rw [HV.out, hs, ho]; simp⟩
          case measure => simp [intOf]
end Go.Proofs.Qxb6605676a.Kz
