import Derived.Test.Qxb6605676aKz14
namespace Go.Proofs.Qxb6605676a.Kz
set_option linter.unusedVariables false
set_option linter.unusedSimpArgs false
open Go.RowKit Go.Proofs.Qxb6605676a.Mp Go.Proofs.Qxb6605676a.Tm Go.Proofs.Qxb6605676a.En

/-- A key state that Restore hands back, made idle. -/
def lfCells (q : ZK) : List Value := [.string q.rule, .string q.sensor, .string q.metric, .string q.sev, .string ⟨#[79, 75]⟩, .int .u64 0, .int .i64 0, .pointer none, .int .u64 0, .int .i64 0, .pointer none, .string ⟨#[]⟩, .string ⟨#[]⟩, .float .f64 0, .bool false, .int .u64 0, .int .i64 0, .pointer none, .int .u64 0, .int .i64 0, .pointer none]
theorem lfR {W : World} {b p : Nat} {q : ZK} (h : W.rangeAt b p (lfCells q)) : W.cell? ⟨b, p, none⟩ = some (.string q.rule) ∧ W.cell? ⟨b, p + 1, none⟩ = some (.string q.sensor) ∧ W.cell? ⟨b, p + 2, none⟩ = some (.string q.metric) ∧ W.cell? ⟨b, p + 3, none⟩ = some (.string q.sev) ∧ W.cell? ⟨b, p + 4, none⟩ = some (.string ⟨#[79, 75]⟩) ∧ W.cell? ⟨b, p + 5, none⟩ = some (.int .u64 0) ∧ W.cell? ⟨b, p + 6, none⟩ = some (.int .i64 0) ∧ W.cell? ⟨b, p + 7, none⟩ = some (.pointer none) ∧ W.cell? ⟨b, p + 8, none⟩ = some (.int .u64 0) ∧ W.cell? ⟨b, p + 9, none⟩ = some (.int .i64 0) ∧ W.cell? ⟨b, p + 10, none⟩ = some (.pointer none) ∧ W.cell? ⟨b, p + 11, none⟩ = some (.string ⟨#[]⟩) ∧ W.cell? ⟨b, p + 12, none⟩ = some (.string ⟨#[]⟩) ∧ W.cell? ⟨b, p + 13, none⟩ = some (.float .f64 0) ∧ W.cell? ⟨b, p + 14, none⟩ = some (.bool false) ∧ W.cell? ⟨b, p + 15, none⟩ = some (.int .u64 0) ∧ W.cell? ⟨b, p + 16, none⟩ = some (.int .i64 0) ∧ W.cell? ⟨b, p + 17, none⟩ = some (.pointer none) ∧ W.cell? ⟨b, p + 18, none⟩ = some (.int .u64 0) ∧ W.cell? ⟨b, p + 19, none⟩ = some (.int .i64 0) ∧ W.cell? ⟨b, p + 20, none⟩ = some (.pointer none) :=
  ⟨by simpa using h 0 _ rfl, h 1 _ rfl, h 2 _ rfl, h 3 _ rfl, h 4 _ rfl, h 5 _ rfl, h 6 _ rfl, h 7 _ rfl, h 8 _ rfl, h 9 _ rfl, h 10 _ rfl, h 11 _ rfl, h 12 _ rfl, h 13 _ rfl, h 14 _ rfl, h 15 _ rfl, h 16 _ rfl, h 17 _ rfl, h 18 _ rfl, h 19 _ rfl, h 20 _ rfl⟩

/-- The keys that no rule takes. -/
def unm (R : List RuleD) (q : ZK) : Bool := decide ((mtc R q.rule q.metric q.sev).1 < 0)
def unmL (R : List RuleD) (K : List ZK) : List ZK := K.filter (unm R)

theorem unmL_at (R : List RuleD) (K : List ZK) (j : Nat) (h : j < K.length) (hu : unm R K[j] = true) : (unmL R K)[(unmL R (K.take j)).length]? = some K[j] := by
  have e : K = K.take j ++ (K[j] :: K.drop (j + 1)) := by
    rw [← List.drop_eq_getElem_cons h, List.take_append_drop]
  have e2 : unmL R K = unmL R (K.take j) ++ (K[j] :: unmL R (K.drop (j + 1))) := by
    conv => lhs; rw [e]
    unfold unmL
    rw [List.filter_append, List.filter_cons, if_pos hu]
  rw [e2, List.getElem?_append_right (Nat.le_refl _)]
  simp
theorem unmL_succ (R : List RuleD) (K : List ZK) (j : Nat) (h : j < K.length) : (unmL R (K.take (j + 1))).length = (unmL R (K.take j)).length + (if unm R K[j] = true then 1 else 0) := by
  unfold unmL
  rw [List.take_succ_eq_append_getElem h, List.filter_append, List.length_append]
  by_cases hu : unm R K[j] = true
  · rw [if_pos hu, List.filter_cons, if_pos hu]; rfl
  · rw [if_neg hu, List.filter_cons, if_neg hu]; rfl

theorem nanos0 (W : World) : Calls Try.prog 33 #[.agg #[.int .u64 0, .int .i64 0, .pointer none]] W fun e w' => e = .returned (.int .i64 0) ∧ Below W.heap.size W w' := by
  have := zznanos_any 0 W (by decide) (by decide)
  rw [T_def] at this
  exact this

set_option maxHeartbeats 4000000 in
set_option maxRecDepth 100000 in
theorem zzleftAgrees_any (R : List RuleD) (K : List ZK) (rb : Nat) (ka la : Option Addr) (kc lc : Nat) (w : World) (hR : RulesAt w rb R) (hlen : R.length ≤ 1000) (hsl : ∀ r ∈ R, r.sevs.length ≤ 1000)
    (hK : K = [] ∨ ∃ kb o, ka = some ⟨kb, o, none⟩ ∧ KeysAt w kb o K) (hkl : K.length ≤ 4096)
    (hL : unmL R K = [] ∨ ∃ g, la = some ⟨g, 0, none⟩ ∧ RowsAt w g 21 lfCells (unmL R K)) :
    Calls Try.prog 29 #[.slice (some ⟨rb, 0, none⟩) R.length R.length, .slice ka K.length kc, .slice la (unmL R K).length lc] w fun e w' => e = .returned (.bool true) ∧ Below w.heap.size w w' := by
  have H33 : Hid (∀ W : World, Calls Try.prog 33 #[.agg #[.int .u64 0, .int .i64 0, .pointer none]] W fun e w' => e = .returned (.int .i64 0) ∧ Below W.heap.size W w') := nanos0
  have hule : (unmL R K).length ≤ K.length := List.length_filter_le _ _
  go_enter Try.func29, Try.ntmps29
  go_wp2
  go_loopw [7, 8] (fun n x wr => ∃ j : Nat, j ≤ K.length ∧ x = .int .i64 j ∧ n = .int .i64 (unmL R (K.take j)).length ∧ Below w.heap.size w wr) (fun _ x _ => K.length - (intOf x).toNat)
  case atStart => exact ⟨0, Nat.zero_le _, rfl, by simp [unmL], Below.refl _ _⟩
  case round =>
    obtain ⟨j, hj, rfl, rfl, hb⟩ := hrel
    by_cases hjl : j < K.length
    · have hsu := unmL_succ R K j hjl
      have hat := unmL_at R K j hjl
      rcases hK with rfl | ⟨kb, o, rfl, hK⟩
      · simp at hjl
      have hr1 : wr.rangeAt kb (o + j * 11) (zkCells K[j]) := (hK.below hb).range j hjl
      generalize hgj : K[j] = q at *
      generalize hn0 : (unmL R (K.take j)).length = n0 at *
      obtain ⟨f0, f1, f2, f3, f4, f5, f6, f7, f8, f9, f10⟩ := zkR hr1
      have HM : ∀ W, Hid (RulesAt W rb R → Calls Try.prog 68 #[.slice (some ⟨rb, 0, none⟩) R.length R.length, .string q.rule, .string q.metric, .string q.sev] W fun e w' => e = .returned (.tuple #[.int .i64 (mtc R q.rule q.metric q.sev).1, .int .i64 (mtc R q.rule q.metric q.sev).2]) ∧ W = w') := fun W hW => zzmatch_any R q.rule q.metric q.sev rb W hW hlen hsl
      have HRw : ∀ nq, Hid (RulesAt (wr.drewN nq) rb R) := fun nq => hR.below (below_drewN hb nq)
      clear hr1 hK
      by_cases hu : unm R q = true
      · have hlt0 : (mtc R q.rule q.metric q.sev).1 < 0 := by simpa [unm] using hu
        rw [if_pos hu] at hsu
        have hat := hat hu
        have hnl : n0 < (unmL R K).length := (List.getElem?_eq_some_iff.1 hat).1
        rcases hL with hL | ⟨g, rfl, hL⟩
        · rw [hL] at hnl; simp at hnl
        have hr2 : wr.rangeAt g (n0 * 21) (lfCells q) := range_below (hL n0 q hat) hb
        generalize (unmL R K).length = nl at *
        generalize (mtc R q.rule q.metric q.sev).1 = i1 at *
        generalize (mtc R q.rule q.metric q.sev).2 = i2 at *
        obtain ⟨g0, g1, g2, g3, g4, g5, g6, g7, g8, g9, g10, g11, g12, g13, g14, g15, g16, g17, g18, g19, g20⟩ := lfR hr2
        have HR2 : Hid (wr.rangeAt g (n0 * 21) (lfCells q)) := hr2
        clear hr2 hat hL hu
        go_wp2
        go_quiet (first | (go_at_call 68; refine Calls.quiet_of_same (Calls.mono ((HM _).out (HRw _).out) fun e w' h => ⟨h.1, h.2.symm⟩)))
        go_wp2
        go_quiet (fail)
        have HRG : Hid (∀ W, Below wr.heap.size wr W → W.rangeAt g (n0 * 21) (lfCells q)) := fun W hW => range_below HR2.out hW
        have HB0 : ∀ a, Hid (Below wr.heap.size wr (wr.drewN a)) := fun a => below_drewN (Below.refl _ _) a
        clear f0 f1 f2 f3 f4 f5 f6 f7 f8 f9 f10
        go_wp2_with (go_at_call 33; refine Calls.mono (H33.out _) ?_; rintro _ w5 ⟨rfl, b5⟩; have b6 := Below.step (w := wr) (by first | assumption | exact (HB0 _).out) b5; obtain ⟨g0, g1, g2, g3, g4, g5, g6, g7, g8, g9, g10, g11, g12, g13, g14, g15, g16, g17, g18, g19, g20⟩ := lfR (HRG.out _ b6))
        exact ⟨⟨j + 1, by omega, by go_num, by rw [hsu]; go_num, Below.step hb b6⟩, by simp [intOf]; omega⟩
      · have hlt0 : ¬ (mtc R q.rule q.metric q.sev).1 < 0 := by simpa [unm] using hu
        rw [if_neg hu] at hsu
        generalize (mtc R q.rule q.metric q.sev).1 = i1 at *
        generalize (mtc R q.rule q.metric q.sev).2 = i2 at *
        clear hat hu
        go_wp2
        go_quiet (first | (go_at_call 68; refine Calls.quiet_of_same (Calls.mono ((HM _).out (HRw _).out) fun e w' h => ⟨h.1, h.2.symm⟩)))
        go_wp2
        exact ⟨⟨j + 1, by omega, by go_num, by rw [hsu]; rfl, below_drewN hb _⟩, by simp [intOf]; omega⟩
    · rw [List.take_of_length_le (by omega)] at *
      go_wp2
      go_ret
      exact ⟨rfl, hb⟩
end Go.Proofs.Qxb6605676a.Kz
