import Derived.Test.Qxb6605676aKz28
import Derived.Test.Qxb6605676aKz29
import Derived.Test.Qxb6605676aK3r
namespace Go.Proofs.Qxb6605676a.Kz
set_option linter.unusedVariables false
set_option linter.unusedSimpArgs false
open Go.RowKit Go.Proofs.Qxb6605676a.Mp Go.Proofs.Qxb6605676a.Tm Go.Proofs.Qxb6605676a.En
open Go.ChangeMaps (setBlock heap_setBlock_same)

theorem RulesIn.mono {w : World} {B B' rb : Nat} {R : List RuleD} (h : RulesIn w B rb R) (hB : B ≤ B') : RulesIn w B' rb R := by
  intro i r hr
  obtain ⟨lb, f, g, k, h0, h1, h2, h3, h4, h5, h6, h7⟩ := h i r hr
  exact ⟨lb, f, g, k, h0, h1, h2, h3, h4, h5, h6, Nat.lt_of_lt_of_le h7 hB⟩

section
variable {w : World} {mb rb : Nat} {rs : Array Value}

set_option maxHeartbeats 6400000 in
set_option maxRecDepth 100000 in
theorem restore_any (R : List RuleD) (E : Eng w mb rb R.length rs [] [] [] [] []) (hR : RulesIn w mb rb R) (hRl : R.length ≤ 1000) (hRs : ∀ r ∈ R, r.sevs.length ≤ 1000) (K : List ZK) (S : List ZS) (T' : List ZR) (kb sb tb : Nat) (sa ta : Option Addr)
    (hK : RowsAt w kb 21 ksCells K) (hS : RowsAt w sb 5 ssCells S) (hT : RowsAt w tb 13 tnCells T') (hsa : S = [] ∨ sa = some ⟨sb, 0, none⟩) (hta : T' = [] ∨ ta = some ⟨tb, 0, none⟩) (hkbl : kb < w.heap.size) (hsl : sb < w.heap.size) (htl : tb < w.heap.size)
    (lK : K.length ≤ 4096) (lS : S.length ≤ 4096) (lT : T'.length ≤ 4096) :
    Calls Try.prog 16 #[.pointer (some ⟨mb + 5, 0, none⟩), .agg #[.slice (some ⟨kb, 0, none⟩) K.length K.length, .slice sa S.length S.length, .slice ta T'.length T'.length]] w fun e w' =>
      ∃ (ptrs : List Nat) (pb lr bx base : Nat) (l lE : Value), e = .returned (.tuple #[l, lE]) ∧ ptrs.length = K.length ∧ w.heap.size < base ∧
        Rel3 w sa ta mb rb pb lr bx base kb sb tb rs R K S T' S (K.zip ptrs) K K (unmL R K) w' l ∧ w'.ownsRow base 74 13 lE (endL R K T').length ((endL R K T').flatMap (teCells K)) := by
  obtain ⟨c0, c2, c3, c4, c5, c6⟩ := E.cells
  have hlt := E.lt
  have hlow := E.low
  have hmm := Rs.run_makeMap_hint
  have hmm2 := @run_makeMap Try.prog
  go_enter Try.func16, Try.ntmps16
  go_wp2
  have BW : Hid (Below w.heap.size w (w.alloc (.cells #[.slice (some ⟨kb, 0, none⟩) K.length K.length, .slice sa S.length S.length, .slice ta T'.length T'.length] 37))) := (Below.refl _ _).alloc (Nat.le_refl _) _
  have HM0 : Hid (MapIs ((w.alloc (.cells #[.slice (some ⟨kb, 0, none⟩) K.length K.length, .slice sa S.length S.length, .slice ta T'.length T'.length] 37)).alloc (.map #[] 0)) (w.heap.size + 1) sv []) := by
    have := MapIs.made (w.alloc (.cells #[.slice (some ⟨kb, 0, none⟩) K.length K.length, .slice sa S.length S.length, .slice ta T'.length T'.length] 37)) sv
    have e : (w.alloc (.cells #[.slice (some ⟨kb, 0, none⟩) K.length K.length, .slice sa S.length S.length, .slice ta T'.length T'.length] 37)).heap.size = w.heap.size + 1 := by simp
    rw [e] at this
    exact this
  have HE : Hid (Eng w mb rb R.length rs [] [] [] [] []) := E
  have HRi : Hid (RulesIn w mb rb R) := hR
  have HK : Hid (RowsAt w kb 21 ksCells K) := hK
  have HS : Hid (RowsAt w sb 5 ssCells S) := hS
  have HT : Hid (RowsAt w tb 13 tnCells T') := hT
  have HSA : Hid (S = [] ∨ sa = some ⟨sb, 0, none⟩) := hsa
  have HTA : Hid (T' = [] ∨ ta = some ⟨tb, 0, none⟩) := hta
  clear E hR hK hS hT hsa hta
  go_loopw [37] (fun x wr => ∃ k : Nat, k ≤ R.length ∧ x = .int .i64 k ∧ Below (w.heap.size + 1) (w.alloc (.cells #[.slice (some ⟨kb, 0, none⟩) K.length K.length, .slice sa S.length S.length, .slice ta T'.length T'.length] 37)) wr ∧ MapIs wr (w.heap.size + 1) sv (plcs (R.take k) 0 []) ∧ w.heap.size + 1 < wr.heap.size) (fun x _ => R.length - (intOf x).toNat)
  case atStart => exact ⟨0, Nat.zero_le _, rfl, (Below.refl _ _).alloc (by simp) _, HM0.out, by simp⟩
  case round =>
    obtain ⟨k, hk, rfl, hb, hM, hsz⟩ := hrel
    have hbw : Below w.heap.size w wr := BW.out.trans (hb.mono (by omega))
    by_cases hkl : k < R.length
    · obtain ⟨lb, f, g, h, d0, d1, d2, d3, d4, d5, _, _⟩ := (HRi.out.below hbw) k R[k] (by simp [hkl])
      have hpl := plcs_take R k hkl
      generalize R[k] = r at *
      have hMa : ∀ o, MapIs (wr.alloc o) (w.heap.size + 1) sv (plcs (R.take k) 0 []) := fun o => hM.of_block (heap_alloc_old wr o hsz)
      obtain ⟨o', hst, hM2⟩ := (hMa (.cells #[.string r.name, .string r.metric, .slice (some ⟨lb, 0, none⟩) r.sevs.length r.sevs.length, .int .i64 f, .int .i64 g, .int .i64 h] 124)).store keyTy9 Try.underlying111 r.name (.int .i64 k)
      simp only [sv] at hst
      have HM2 := hM2
      rw [← hpl] at HM2
      clear hM hMa hpl hM2
      go_wp2
      have hg2 := setBlock_grown (wr.alloc (.cells #[.string r.name, .string r.metric, .slice (some ⟨lb, 0, none⟩) r.sevs.length r.sevs.length, .int .i64 f, .int .i64 g, .int .i64 h] 124)) (w.heap.size + 1) o'
      have hb2 := (hb.alloc (by omega) (.cells #[.string r.name, .string r.metric, .slice (some ⟨lb, 0, none⟩) r.sevs.length r.sevs.length, .int .i64 f, .int .i64 g, .int .i64 h] 124)).grown hg2 (by simp; omega) (fun k hk => by simp at hk; omega)
      exact ⟨⟨k + 1, by omega, by go_num, hb2, HM2, Nat.lt_of_lt_of_le (by simp; omega) hg2.size⟩, by simp [intOf]; omega⟩
    · rw [List.take_of_length_le (by omega)] at hM
      have e0 : wr.cell? ⟨w.heap.size, 0, none⟩ = some (.slice (some ⟨kb, 0, none⟩) K.length K.length) := by rw [hb.cell (by simp)]; unfold World.cell?; rw [heap_alloc_new]; rfl
      have e1 : wr.cell? ⟨w.heap.size, 1, none⟩ = some (.slice sa S.length S.length) := by rw [hb.cell (by simp)]; unfold World.cell?; rw [heap_alloc_new]; rfl
      have e2 : wr.cell? ⟨w.heap.size, 2, none⟩ = some (.slice ta T'.length T'.length) := by rw [hb.cell (by simp)]; unfold World.cell?; rw [heap_alloc_new]; rfl
      have hsz' : w.heap.size < wr.heap.size := by omega
      have e0' : ∀ o, (wr.alloc o).cell? ⟨w.heap.size, 0, none⟩ = some (.slice (some ⟨kb, 0, none⟩) K.length K.length) := fun o => by rw [World.cell?_alloc_lt _ _ _ hsz']; exact e0
      go_wp2
      have hbA : Below wr.heap.size wr (wr.alloc (.map #[] 0)) := (Below.refl _ _).alloc (Nat.le_refl _) _
      have hbB : Below w.heap.size w (wr.alloc (.map #[] 0)) := hbw.alloc (by omega) _
      have HR0 : Hid (Rel3 w sa ta mb rb (w.heap.size + 1) wr.heap.size w.heap.size (wr.heap.size + 1) kb sb tb rs R K S T' [] (([] : List ZK).zip []) [] [] (unmL R []) (wr.alloc (.map #[] 0)) (.slice none 0 0)) := by
        refine ⟨HE.out.below hbB, ?_, (HRi.out.below hbB).mono (by omega), hM.of_block (hbA.block _ hsz), MapIs.made wr pv, ⟨rfl, .inl ⟨rfl, rfl⟩⟩, HK.out.below hbB, HS.out.below hbB, HT.out.below hbB, by rw [hbA.cell hsz']; exact e1, by rw [hbA.cell hsz']; exact e2, by simp, ⟨by omega, by omega, by omega, by omega, by omega, by omega, by omega, by omega⟩, hbB.mono (by omega)⟩
        intro q ab hq
        simp at hq
      clear e0 e1 e2 e0' hM hb hbw hbA hbB c0 c2 c3 c4 c5 c6 hmm hmm2 HM0 BW HE HRi HK HS HT
      have hlrs : w.heap.size + 1 < wr.heap.size := hsz
      clear hsz hsz'
      generalize wr.heap.size = lr at *
      go_loopw [9, 51] (fun l x wr2 => ∃ (k : Nat) (ptrs : List Nat), k ≤ K.length ∧ x = .int .i64 k ∧ ptrs.length = k ∧ Rel3 w sa ta mb rb (w.heap.size + 1) lr w.heap.size (lr + 1) kb sb tb rs R K S T' [] ((K.take k).zip ptrs) (K.take k) (K.take k) (unmL R (K.take k)) wr2 l) (fun _ x _ => K.length - (intOf x).toNat)
      case atStart => exact ⟨0, [], Nat.zero_le _, rfl, rfl, HR0.out⟩
      case round =>
        clear HR0
        obtain ⟨k, ptrs, hk, rfl, hpl, rel⟩ := hrel
        by_cases hkk : k < K.length
        · refine round2 _ _ K[k] k K.length (by simp) hkk lK (Nat.le_trans (List.length_filter_le _ _) (by simp; omega)) (fun _ _ d _ _ h => by cases d <;> exact h) ⟨by omega, by omega, by omega⟩ hRl hRs rel _ _ _ _ _ _ _ _ _ _ _ _ _ _ _ _ _ _ _ _ _ _ _ _ _ _ _ _ _ _ _ _ _ _ _ _ _ _ _ _ _ _ _ _ _ _ _ _ _ _ _ _ _ _ _ _ _ _ _ _ _ _ _ _ _ _ _ _ _ _ _ _ _ _ _ _ _ _ _ _ _ _ _ _ _ _ _ _ _ _ _ _ _ _ _ _ _ _ _ _ _ _ _ _ _ _ _ _ _ _ _ _ _ _ _ _ _ _ _ _ _ _ _ _ _ _ _ _ _ _ _ _ _ _ _ _ _ _ _ _ _ _ _ _ _ _ _ _ _ _ _ _ _ _ _ _ _ _ _ _ _ _ _ _ _ _ _ _ _ _ _ _ _ _ _ _ _ _ _ _ _ _ _ _ _ _ _ _ _ _ _ _ _ _ _ _ _ _ _ _ _ _ _ _ _ _ _ _ _ _ _ _ _ _ ?_
          intro _ _ _ _ _ _ _ _ _ _ _ _ _ _ _ _ _ _ _ _ _ _ _ _ _ _ _ _ _ _ _ _ _ _ _ _ _ _ _ _ _ _ _ _ _ _ _ _ _ _ _ _ _ _ _ _ _ _ _ _ _ _ _ _ _ _ _ _ _ _ _ _ _ _ _ _ _ _ _ _ _ _ _ _ _ _ _ _ _ _ _ _ _ _ _ _ _ _ _ _ _ l' w' hn
          obtain ⟨ptrs', hp', hr'⟩ := next2_step hkk hpl hn
          dsimp only
          go_roundw
          case rel => exact ⟨k + 1, ptrs', by omega, rfl, hp', hr'⟩
          case measure => simp [intOf]; omega
        · have hke : k = K.length := by omega
          subst hke
          rw [List.take_of_length_le (Nat.le_refl _)] at rel
          have b1 := rel.bx1
          have HR1 : Hid (Rel3 w sa ta mb rb (w.heap.size + 1) lr w.heap.size (lr + 1) kb sb tb rs R K S T' [] (K.zip ptrs) K K (unmL R K) wr u9) := rel
          clear rel
          go_wp2
          go_loopw [151] (fun x wr2 => ∃ k : Nat, k ≤ S.length ∧ x = .int .i64 k ∧ Rel3 w sa ta mb rb (w.heap.size + 1) lr w.heap.size (lr + 1) kb sb tb rs R K S T' (S.take k) (K.zip ptrs) K K (unmL R K) wr2 u9) (fun x _ => S.length - (intOf x).toNat)
          case atStart => exact ⟨0, Nat.zero_le _, rfl, HR1.out⟩
          case round =>
            clear HR1 b1
            obtain ⟨k3, hk3, rfl, rel⟩ := hrel
            by_cases hkk3 : k3 < S.length
            · rcases HSA.out with hs | hs
              · rw [hs] at hkk3; simp at hkk3
              subst hs
              refine w3_round _ _ S[k3] k3 S.length (by simp) hkk3 lS ⟨by omega, by omega, by omega⟩ rel _ _ _ _ _ _ _ _ _ _ _ _ _ _ _ _ _ _ _ _ _ _ _ _ _ _ _ _ _ _ _ _ _ _ _ _ _ _ _ _ _ _ _ _ _ _ _ _ _ _ _ _ _ _ _ _ _ _ _ _ _ _ _ _ _ _ _ _ _ _ _ _ _ _ _ _ _ _ _ _ _ _ _ _ _ _ _ _ _ _ _ _ _ _ _ _ _ _ _ _ _ _ _ _ _ _ _ _ _ _ _ _ _ _ _ _ _ _ _ _ _ _ _ _ _ _ _ _ _ _ _ _ _ _ _ _ _ _ _ _ _ _ _ _ _ _ _ _ _ _ _ _ _ _ _ _ _ _ _ _ _ _ _ _ _ _ _ _ _ _ _ _ _ _ _ _ _ _ _ _ _ _ _ _ _ _ _ _ _ _ _ _ _ _ _ _ _ _ _ _ _ _ _ _ _ _ _ _ _ _ _ _ _ _ _ _ _ ?_
              intro _ _ _ _ _ _ _ _ _ _ _ _ _ _ _ _ w' hn
              have hts : S.take (k3 + 1) = S.take k3 ++ [S[k3]] := List.take_succ_eq_append_getElem hkk3
              rw [← hts] at hn
              dsimp only
              go_roundw
              case rel => exact ⟨k3 + 1, by omega, rfl, hn⟩
              case measure => simp [intOf]; omega
            · have hke3 : k3 = S.length := by omega
              subst hke3
              rw [List.take_of_length_le (Nat.le_refl _)] at rel
              have b2 := rel.bx2
              have HR2 : Hid (Rel3 w sa ta mb rb (w.heap.size + 1) lr w.heap.size (lr + 1) kb sb tb rs R K S T' S (K.zip ptrs) K K (unmL R K) wr u9) := rel
              clear rel
              go_wp2
              go_loopw [19, 170] (fun lE x wr2 => ∃ k : Nat, k ≤ T'.length ∧ x = .int .i64 k ∧ Rel3 w sa ta mb rb (w.heap.size + 1) lr w.heap.size (lr + 1) kb sb tb rs R K S T' S (K.zip ptrs) K K (unmL R K) wr2 u9 ∧ wr2.ownsRow (lr + 1) 74 13 lE (endL R K (T'.take k)).length ((endL R K (T'.take k)).flatMap (teCells K))) (fun _ x _ => T'.length - (intOf x).toNat)
              case atStart => exact ⟨0, Nat.zero_le _, rfl, HR2.out, ⟨rfl, .inl ⟨rfl, rfl⟩⟩⟩
              case round =>
                clear HR2 b2
                obtain ⟨k4, hk4, rfl, rel, hown⟩ := hrel
                by_cases hkk4 : k4 < T'.length
                · rcases HTA.out with hs | hs
                  · rw [hs] at hkk4; simp at hkk4
                  subst hs
                  refine round4 _ _ T'[k4] k4 T'.length u19 (endL R K (T'.take k4)) (by simp) hkk4 lT (Nat.le_trans (endL_le R K _) (by simp; omega)) hpl hRs rel hown _ _ _ _ _ _ _ _ _ _ _ _ _ _ _ _ _ _ _ _ _ _ _ _ _ _ _ _ _ _ _ _ _ _ _ _ _ _ _ _ _ _ _ _ _ _ _ _ _ _ _ _ _ _ _ _ _ _ _ _ _ _ _ _ _ _ _ _ _ _ _ _ _ _ _ _ _ _ _ _ _ _ _ _ _ _ _ _ _ _ _ _ _ _ _ _ _ _ _ _ _ _ _ _ _ _ _ _ _ _ _ _ _ _ _ _ _ _ _ _ _ _ _ _ _ _ _ _ _ _ _ _ _ _ _ _ _ _ _ _ _ _ _ _ _ _ _ _ _ _ _ _ _ _ _ _ _ _ _ _ _ _ _ _ _ _ _ _ _ _ _ _ _ _ _ _ _ _ _ _ _ _ _ _ _ _ _ _ _ _ _ _ _ _ _ _ _ _ _ _ _ _ _ _ _ _ _ _ _ _ _ _ _ _ ?_
                  intro _ _ _ _ _ _ _ _ _ _ _ _ _ _ _ _ _ _ _ _ _ _ _ _ _ _ _ _ _ _ _ _ _ _ _ _ _ _ _ _ _ _ _ _ _ _ _ _ _ _ _ _ _ lE' w' hn
                  rw [← endL_snoc R K T' k4 hkk4] at hn
                  dsimp only
                  go_roundw
                  case rel => exact ⟨k4 + 1, by omega, rfl, hn.1, hn.2⟩
                  case measure => simp [intOf]; omega
                · have hke4 : k4 = T'.length := by omega
                  subst hke4
                  rw [List.take_of_length_le (Nat.le_refl _)] at hown
                  have HR3 : Hid (Rel3 w sa ta mb rb (w.heap.size + 1) lr w.heap.size (lr + 1) kb sb tb rs R K S T' S (K.zip ptrs) K K (unmL R K) wr u9) := rel
                  have HO3 : Hid (wr.ownsRow (lr + 1) 74 13 u19 (endL R K T').length ((endL R K T').flatMap (teCells K))) := hown
                  clear rel hown
                  go_wp2
                  go_ret2
                  exact ⟨ptrs, _, _, _, _, _, _, rfl, hpl, by omega, HR3.out, HO3.out⟩
end
end Go.Proofs.Qxb6605676a.Kz
