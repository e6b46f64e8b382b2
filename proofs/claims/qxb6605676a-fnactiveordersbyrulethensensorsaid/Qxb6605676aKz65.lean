import Derived.Test.Qxb6605676aKz64
import Derived.Test.Qxb6605676aK12
namespace Go.Proofs.Qxb6605676a.Kz
set_option linter.unusedVariables false
set_option linter.unusedSimpArgs false
open Go.RowKit Go.Proofs.Qxb6605676a.Mp Go.Proofs.Qxb6605676a.Tm Go.Proofs.Qxb6605676a.En

/-- The record of an entry of the model. -/
theorem rec_facts {R : List RuleD} {K : List ZK} {e : EN} {E : List EN} (hp : E.Perm ((modL R K).map (fil R K))) (he : e ∈ E) :
    ∃ (a : Nat) (q : ZK) (r : RuleD), e.src = (a : Int) ∧ K[a]? = some q ∧ R[e.rule]? = some r ∧ recOf R K e = ⟨r.name, e.sev, q.state, q.since, q.lts, q.sensor, q.metric, q.val⟩ := by
  obtain ⟨e0, he0, rfl⟩ := List.mem_map.1 (hp.mem_iff.1 he)
  obtain ⟨a, q, r, h1, h2, h3, h4⟩ := src_facts ((modL_ok R K).back e0 he0)
  refine ⟨a, q, r, h1, h2, h3, ?_⟩
  obtain ⟨hal, rfl⟩ := List.getElem?_eq_some_iff.1 h2
  unfold recOf fil
  simp only
  rw [h1, Int.toNat_natCast, getD_at K noKey a hal, name_at h3]

set_option maxHeartbeats 6400000 in
set_option maxRecDepth 100000 in
theorem zzactiveAgrees_any (R : List RuleD) (K : List ZK) (D : List AcR) (rz ga : Nat) (ka : Option Addr) (kc ca nE : Nat) (w : World) (hR : RulesAt w rz R) (hrz : rz < w.heap.size) (hlen : R.length ≤ 1000) (hns : ∀ r ∈ R, r.name.size < 2 ^ 63) (hone : ∀ r ∈ R, ∃ s, r.sevs = [s])
    (hK : KArg w ka K) (hkl : K.length ≤ 4096) (hse : ∀ q ∈ K, q.sensor.size < 2 ^ 63) (hok : ∀ q ∈ K, ZK.Ok q) (hA : RowsAt w ga 12 acCells D) (hDl : Hid (D.length = nE)) (hD : ∀ E : List EN, E.Perm ((modL R K).map (fil R K)) → SortedTo R E.length E → D = E.map (recOf R K)) :
    Calls Try.prog 18 #[.slice (some ⟨rz, 0, none⟩) R.length R.length, .slice ka K.length kc, .slice (some ⟨ga, 0, none⟩) nE ca] w fun e w' => e = .returned (.bool true) ∧ Below w.heap.size w w' := by
  have H61 : Hid _ := zzactiveModel_any R K rz ka kc w hR hrz hlen hns hone hK hkl hse
  have HR : Hid (RulesAt w rz R) := hR
  have HK : Hid (KArg w ka K) := hK
  have HA : Hid (RowsAt w ga 12 acCells D) := hA
  have HOK : Hid (∀ q ∈ K, ZK.Ok q) := hok
  have HD : Hid (∀ E : List EN, E.Perm ((modL R K).map (fil R K)) → SortedTo R E.length E → D = E.map (recOf R K)) := hD
  clear hR hK hA hse hns hone hok hD
  go_enter Try.func18, Try.ntmps18
  go_wp2_with fail
  refine Calls.mono H61.out ?_
  rintro e w1 ⟨gE, ec, E, hev, hp, hs, hrow, hb1⟩
  have hDE := HD.out E hp hs
  have hEl : E.length = nE := by
    have h1 := hDl.out
    rw [hDE, List.length_map] at h1
    exact h1
  rw [hEl] at hev
  subst hev
  have hn : nE ≤ 4096 := by
    have h1 := hp.length_eq
    rw [List.length_map] at h1
    have := modL_len R K
    omega
  have HDE : Hid (D = E.map (recOf R K)) := hDE
  have HP : Hid (E.Perm ((modL R K).map (fil R K))) := hp
  have HEL : Hid (E.length = nE) := hEl
  have HROW : Hid (E = [] ∨ ∃ g, gE = some ⟨g, 0, none⟩ ∧ RowsAt w1 g 4 enCells E) := hrow
  have HB1 : Hid (Below w.heap.size w w1) := hb1
  clear H61 hp hs hrow hb1 hDE hEl HD
  go_wp2_with fail
  go_loopw [8] (fun x wr => ∃ m : Nat, m ≤ nE ∧ x = .int .i64 m ∧ Below w1.heap.size w1 wr) (fun x _ => nE - (intOf x).toNat)
  case atStart => exact ⟨0, Nat.zero_le _, rfl, Below.refl _ _⟩
  case round =>
    obtain ⟨m, hm, rfl, hb⟩ := hrel
    by_cases hml : m < nE
    · have hmE : m < E.length := by have := HEL.out; omega
      rcases HROW.out with h0 | ⟨g, rfl, hrow⟩
      · rw [h0] at hmE; simp at hmE
      have heE : E[m]? = some E[m] := List.getElem?_eq_getElem hmE
      obtain ⟨a, q, r, h1, h2, h3, h4⟩ := rec_facts HP.out (List.getElem_mem hmE)
      have hd : D[m]? = some ⟨r.name, E[m].sev, q.state, q.since, q.lts, q.sensor, q.metric, q.val⟩ := by
        rw [HDE.out, List.getElem?_map, heE, Option.map_some, h4]
      have hrl : E[m].rule < R.length := (List.getElem?_eq_some_iff.1 h3).1
      have hb0 : Below w.heap.size w wr := Below.step HB1.out hb
      obtain ⟨kb, rfl, hKK⟩ : ∃ kb, ka = some ⟨kb, 0, none⟩ ∧ KeysAt w kb 0 K := by
        rcases HK.out with h0 | h
        · subst h0; simp at h2
        · exact h
      have hnm : wr.cell? ⟨rz, E[m].rule * 3, none⟩ = some (.string r.name) := ((HR.out.below hb0) _ r h3).1
      generalize E[m] = em at *
      refine w18 (R := R) (K := K) (E := E) (D := D) (w := w1) _ _ (fun _ _ d _ _ h => by cases d <;> exact h) em q r.name m a nE kc ca ec heE hml hn hkl hlen (HOK.out q (List.mem_of_getElem? h2)) hd hrl hnm h1 h2 (hKK.below hb0) hb (hrow.below hb) (HA.out.below hb0) _ _ _ _ _ _ _ _ _ _ _ _ _ _ _ _ _ _ _ _ _ _ _ _ _ _ _ _ _ _ _ _ _ _ _ _ _ _ _ _ _ _ _ _ _ _ _ _ _ _ _ _ _ _ _ _ _ _ _ _ _ _ _ _ _ _ _ _ _ _ _ _ _ _ _ _ _ _ _ _ _ _ _ _ _ _ _ _ _ _ _ _ _ _ _ _ _ _ _ _ _ _ _ _ _ _ _ _ _ _ _ _ _ _ _ _ _ _ _ _ _ _ _ ?_
      intro _ _ _ _ _ _ _ _ _ _ _ _ _ _ _ _ _ _ _ _ _ _ _ _ _ _ _ _ _ _ _ _ _ _ _ _ _ _ _ _ _ _ _ _ _ _ _ _ _ _ _ _ _ _ _ _ _ _ _ _ _ _ _ _ _ _ _ _ _ _ _ _ _ _ _ _ _ _ _ _ _ _ _ _ _ _ _ _ _ _ _ _ _ _ _ _ _ _ _ _ _ _ _ _ _ _ _ _ _ _ _ _ w' hb'
      dsimp only
      go_roundw
      case rel => exact ⟨m + 1, by omega, rfl, hb'⟩
      case measure => simp [intOf]; omega
    · have hme : m = nE := by omega
      subst hme
      go_wp2_with fail
      go_ret
      exact ⟨rfl, Below.step HB1.out hb⟩
end Go.Proofs.Qxb6605676a.Kz
