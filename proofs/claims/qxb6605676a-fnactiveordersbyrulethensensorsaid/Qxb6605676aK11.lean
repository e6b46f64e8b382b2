import Derived.Test.Qxb6605676aKz55
import Derived.Deep.RegionHeld3
namespace Go.Proofs.Qxb6605676a.Kz
set_option linter.unusedVariables false
set_option linter.unusedSimpArgs false
open Go.RowKit Go.Proofs.Qxb6605676a.Mp Go.Proofs.Qxb6605676a.Tm Go.Proofs.Qxb6605676a.En

theorem rules_belowB {w w' : World} {rz B : Nat} {R : List RuleD} (h : RulesAt w rz R) (hb : Below B w w') (hl : ∀ i r, R[i]? = some r → ∃ sb, sb < B ∧ w.cell? ⟨rz, i * 3 + 2, none⟩ = some (.slice (some ⟨sb, 0, none⟩) r.sevs.length r.sevs.length)) (hz : rz < B) : RulesAt w' rz R := by
  intro i r hr
  obtain ⟨h0, h1, sb, h2, h3⟩ := h i r hr
  obtain ⟨sb', hlt, h2'⟩ := hl i r hr
  rw [h2] at h2'
  simp at h2'
  subst h2'
  exact ⟨(hb.cell hz).trans h0, (hb.cell hz).trans h1, sb, (hb.cell hz).trans h2, fun j s hs => (hb.cell hlt).trans (h3 j s hs)⟩

theorem enOneA (e : EN) : (enCells e).toArray.all (·.oneCell') = true := by simp [enCells, Value.oneCell']
theorem row_put {V : World} {g c : Nat} {E : List EN} (h : RowsAt V g 4 enCells E) (ht : V.there g (c * 4) 4) (hc : c < E.length) (x : EN) : RowsAt (V.setCells g (c * 4) (enCells x).toArray.toList) g 4 enCells (E.set c x) := by
  refine rows_set hc (World.rangeAt_setCells_same V g (c * 4) (enCells x) ht) ?_
  intro j y hj hy
  refine World.rangeAt_setCells_apart (h j y hy) _ _ _ (.inr ?_)
  rcases Nat.lt_or_ge j c with hlt | hge
  · left
    simp [enCells]
    omega
  · right
    simp [enCells]
    omega

section
variable {rz g : Nat} {R : List RuleD} {E0 : List EN} {w wr : World}

set_option maxHeartbeats 6400000 in
set_option maxRecDepth 100000 in
theorem w61c (P0 : Act → World → Prop) (Q0 : Exit → Act → World → Prop) (hQ0 : ∀ c a d v w, Q0 (.panic c) (Act.put a d v) w → Q0 (.panic c) a w) (a nE ec : Nat) (ha : 1 ≤ a) (han : a < nE) (hE : nE ≤ 4096) (hE0 : E0.length = nE) (hRl : R.length ≤ 1000) (hns : ∀ r ∈ R, r.name.size < 2 ^ 63) (hen : ∀ e ∈ E0, e.rule < R.length ∧ e.sensor.size < 2 ^ 63)
    (hR : Hid (RulesAt w rz R ∧ (∀ i r, R[i]? = some r → ∃ sb, sb < g ∧ w.cell? ⟨rz, i * 3 + 2, none⟩ = some (.slice (some ⟨sb, 0, none⟩) r.sevs.length r.sevs.length)) ∧ rz < g)) (hb : Hid (Below g w wr)) (hgl : g < wr.heap.size) (hgw : g ≤ w.heap.size) (ho : Hid (RowsAt wr g 4 enCells E0)) (hth : Hid (wr.there g 0 (nE * 4))) (u19 u20 u176 u177 u178 u179 u180 u181 u182 u183 u184 u185 u186 u187 u188 u189 u190 u191 u192 u193 u194 u195 u196 u197 u198 u199 u200 u201 u202 u203 u204 u205 u206 u207 u208 u209 u210 u211 u212 u213 u214 u215 u216 c1 c2 c3 c4 c6 c7 c8 c9 c10 c11 c12 c13 c14 c15 c16 c17 c21 c22 c23 c24 c25 c26 c27 c28 c29 c30 c31 c32 c33 c34 c35 c36 c37 c38 c39 c40 c41 c42 c43 c44 c45 c46 c47 c48 c49 c50 c51 c52 c53 c54 c55 c56 c57 c58 c59 c60 c61 c62 c63 c64 c65 c66 c67 c68 c69 c70 c71 c72 c73 c74 c75 c76 c77 c78 c79 c80 c81 c82 c83 c84 c85 c86 c87 c88 c89 c90 c91 c92 c93 c94 c95 c96 c97 c98 c99 c100 c101 c102 c103 c104 c105 c106 c107 c108 c109 c110 c111 c112 c113 c114 c115 c116 c117 c118 c119 c120 c121 c122 c123 c124 c125 c126 c127 c128 c129 c130 c131 c132 c133 c134 c135 c136 c137 c138 c139 c140 c141 c142 c143 c144 c145 c146 c147 c148 c149 c150 c151 c152 c153 c154 c155 c156 c157 c158 c159 c160 c161 c162 c163 c164 c165 c166 c167 c168 c169 c170 c171 c172 c173 c174 c175 c217 : Value)
    (hend : ∀ (v19 v20 v176 v177 v178 v179 v180 v181 v182 v183 v184 v185 v186 v187 v188 v189 v190 v191 v192 v193 v194 v195 v196 v197 v198 v199 v200 v201 v202 v203 v204 v205 v206 v207 v208 v209 v210 v211 v212 v213 v214 v215 v216 : Value) (w' : World), (∃ E' : List EN, Below g w w' ∧ E'.length = nE ∧ E'.Perm E0 ∧ (SortedTo R a E0 → SortedTo R (a + 1) E') ∧ RowsAt w' g 4 enCells E' ∧ w'.there g 0 (nE * 4) ∧ g < w'.heap.size) → P0 ⟨#[.slice (some ⟨rz, 0, none⟩) R.length R.length, c1, c2, c3, c4, .slice (some ⟨g, 0, none⟩) nE ec, c6, c7, c8, c9, c10, c11, c12, c13, c14, c15, c16, c17, .int .i64 ((a + 1 : Nat) : Int), v19, v20, c21, c22, c23, c24, c25, c26, c27, c28, c29, c30, c31, c32, c33, c34, c35, c36, c37, c38, c39, c40, c41, c42, c43, c44, c45, c46, c47, c48, c49, c50, c51, c52, c53, c54, c55, c56, c57, c58, c59, c60, c61, c62, c63, c64, c65, c66, c67, c68, c69, c70, c71, c72, c73, c74, c75, c76, c77, c78, c79, c80, c81, c82, c83, c84, c85, c86, c87, c88, c89, c90, c91, c92, c93, c94, c95, c96, c97, c98, c99, c100, c101, c102, c103, c104, c105, c106, c107, c108, c109, c110, c111, c112, c113, c114, c115, c116, c117, c118, c119, c120, c121, c122, c123, c124, c125, c126, c127, c128, c129, c130, c131, c132, c133, c134, c135, c136, c137, c138, c139, c140, c141, c142, c143, c144, c145, c146, c147, c148, c149, c150, c151, c152, c153, c154, c155, c156, c157, c158, c159, c160, c161, c162, c163, c164, c165, c166, c167, c168, c169, c170, c171, c172, c173, c174, c175, v176, v177, v178, v179, v180, v181, v182, v183, v184, v185, v186, v187, v188, v189, v190, v191, v192, v193, v194, v195, v196, v197, v198, v199, v200, v201, v202, v203, v204, v205, v206, v207, v208, v209, v210, v211, v212, v213, v214, v215, v216, c217], []⟩ w') :
    Code.wp Try.prog body61c (Exit.then P0 Q0) ⟨#[.slice (some ⟨rz, 0, none⟩) R.length R.length, c1, c2, c3, c4, .slice (some ⟨g, 0, none⟩) nE ec, c6, c7, c8, c9, c10, c11, c12, c13, c14, c15, c16, c17, .int .i64 a, u19, u20, c21, c22, c23, c24, c25, c26, c27, c28, c29, c30, c31, c32, c33, c34, c35, c36, c37, c38, c39, c40, c41, c42, c43, c44, c45, c46, c47, c48, c49, c50, c51, c52, c53, c54, c55, c56, c57, c58, c59, c60, c61, c62, c63, c64, c65, c66, c67, c68, c69, c70, c71, c72, c73, c74, c75, c76, c77, c78, c79, c80, c81, c82, c83, c84, c85, c86, c87, c88, c89, c90, c91, c92, c93, c94, c95, c96, c97, c98, c99, c100, c101, c102, c103, c104, c105, c106, c107, c108, c109, c110, c111, c112, c113, c114, c115, c116, c117, c118, c119, c120, c121, c122, c123, c124, c125, c126, c127, c128, c129, c130, c131, c132, c133, c134, c135, c136, c137, c138, c139, c140, c141, c142, c143, c144, c145, c146, c147, c148, c149, c150, c151, c152, c153, c154, c155, c156, c157, c158, c159, c160, c161, c162, c163, c164, c165, c166, c167, c168, c169, c170, c171, c172, c173, c174, c175, u176, u177, u178, u179, u180, u181, u182, u183, u184, u185, u186, u187, u188, u189, u190, u191, u192, u193, u194, u195, u196, u197, u198, u199, u200, u201, u202, u203, u204, u205, u206, u207, u208, u209, u210, u211, u212, u213, u214, u215, u216, c217], []⟩ wr := by
  conv => arg 2; whnf
  have HEND : Hid _ := hend
  clear hend
  have HEN : Hid (∀ e ∈ E0, e.rule < R.length ∧ e.sensor.size < 2 ^ 63) := hen
  have HNS : Hid (∀ r ∈ R, r.name.size < 2 ^ 63) := hns
  clear hen hns
  go_wp2_with fail
  go_loopw [19] (fun z wr2 => ∃ (b : Nat) (E' : List EN), b ≤ a ∧ z = .int .i64 b ∧ Below g w wr2 ∧ E'.length = nE ∧ E'.Perm E0 ∧ (SortedTo R a E0 → MidS R a b E') ∧ RowsAt wr2 g 4 enCells E' ∧ wr2.there g 0 (nE * 4) ∧ g < wr2.heap.size) (fun z _ => (intOf z).toNat)
  case atStart => exact ⟨a, E0, Nat.le_refl _, rfl, hb.out, hE0, List.Perm.refl _, mid_start, ho.out, hth.out, hgl⟩
  case round =>
    obtain ⟨b, E', hba, rfl, hbw, hlen, hperm, hmid, hrows, hthr, hg2⟩ := hrel
    have HROW : Hid (RowsAt wr g 4 enCells E') := hrows
    have HTH : Hid (wr.there g 0 (nE * 4)) := hthr
    have HBW : Hid (Below g w wr) := hbw
    have HP : Hid (E'.Perm E0) := hperm
    have HM : Hid (SortedTo R a E0 → MidS R a b E') := hmid
    clear hrows hthr hbw hperm hmid hb ho hth
    by_cases hb0 : b = 0
    · subst hb0
      go_wp2_with fail
      go_quiet (fail)
      go_wp2_with fail
      have hfin : ∃ E' : List EN, Below g w (wr.drewN nq) ∧ E'.length = nE ∧ E'.Perm E0 ∧ (SortedTo R a E0 → SortedTo R (a + 1) E') ∧ RowsAt (wr.drewN nq) g 4 enCells E' ∧ (wr.drewN nq).there g 0 (nE * 4) ∧ g < (wr.drewN nq).heap.size :=
        ⟨E', below_drewN HBW.out _, hlen, HP.out, fun hs => mid_end (HM.out hs) (.inl rfl), HROW.out, HTH.out, hg2⟩
      first | exact hfin | exact HEND.out _ _ _ _ _ _ _ _ _ _ _ _ _ _ _ _ _ _ _ _ _ _ _ _ _ _ _ _ _ _ _ _ _ _ _ _ _ _ _ _ _ _ _ _ hfin
    · obtain ⟨c, rfl⟩ : ∃ c, b = c + 1 := ⟨b - 1, by omega⟩
      have hbl : c + 1 < E'.length := by omega
      have hb1 : c < E'.length := by omega
      clear hb0
      have bd1 : (0 : Int) ≤ (c : Int) + 1 := by omega
      have bd2 : (c : Int) + 1 < (nE : Int) := by omega
      have bd3 : (0 : Int) ≤ (c : Int) := by omega
      have bd4 : (c : Int) < (nE : Int) := by omega
      have hwc : IntKind.i64.wrap (c : Int) = (c : Int) := by simp [IntKind.wrap, IntKind.bits, IntKind.signed]; omega
      have bd5 : c + 1 < nE := by omega
      have bd6 : c < nE := by omega
      obtain ⟨x, hx⟩ : ∃ x, E'[c + 1]? = some x := ⟨E'[c + 1], by simp⟩
      obtain ⟨y, hy⟩ : ∃ y, E'[c]? = some y := ⟨E'[c], by simp⟩
      have hrx : wr.rangeAt g ((c + 1) * 4) (enCells x) := HROW.out (c + 1) x hx
      have hry : wr.rangeAt g (c * 4) (enCells y) := HROW.out c y hy
      have hxo := HEN.out x (HP.out.mem_iff.1 (List.mem_of_getElem? hx))
      have hyo := HEN.out y (HP.out.mem_iff.1 (List.mem_of_getElem? hy))
      have HRX : Hid (wr.rangeAt g ((c + 1) * 4) (enCells x)) := hrx
      have HRY : Hid (wr.rangeAt g (c * 4) (enCells y)) := hry
      have HC : Hid (∀ V, Below wr.heap.size wr V → Calls Try.prog 80 #[.slice (some ⟨rz, 0, none⟩) R.length R.length, .agg #[.int .i64 x.rule, .string x.sensor, .int .i64 x.src, .string x.sev], .agg #[.int .i64 y.rule, .string y.sensor, .int .i64 y.src, .string y.sev]] V fun e w' => e = .returned (.bool (enLess R x y)) ∧ Below V.heap.size V w') := fun V hV =>
        entryLess_any R x y rz V ((rules_belowB hR.out.1 HBW.out hR.out.2.1 hR.out.2.2).below hV) hxo.1 hyo.1 hRl HNS.out hxo.2 hyo.2
      have HX : Hid (E'[c + 1]? = some x) := hx
      have HY : Hid (E'[c]? = some y) := hy
      clear hrx hry hx hy
      go_wp2_with fail
      refine wp_region_held_drew (S := (fun W => W.rangeAt g ((c + 1) * 4) (enCells x) ∧ W.rangeAt g (c * 4) (enCells y))) (by kernel_rfl) ⟨HRX.out, HRY.out⟩ (fun hHeld => ?_)
      refine wpAnyH_take (i := 0) (v := ?_) rfl (by kernel_rfl) (by kernel_rfl) (by kernel_rfl) (fun c a w h => hQ0 c a _ _ w h) (Or.inl ⟨by rfl, ?_⟩) hHeld ?_
      rotate_left
      · intro w0 hSw; (try dsimp only at hSw); obtain ⟨r1, r2⟩ := hSw; obtain ⟨s0, s1, s2, s3⟩ := enR r1; obtain ⟨t0, t1, t2, t3⟩ := enR r2; go_simp <;> with_reducible rfl
      try simp only [Act.put, List.getElem_toArray, List.getElem_cons_zero, List.getElem_cons_succ, List.setIfInBounds_toArray, List.set_cons_zero, List.set_cons_succ]
      refine wpAnyH_take (i := 1) (v := ?_) rfl (by kernel_rfl) (by kernel_rfl) (by kernel_rfl) (fun c a w h => hQ0 c a _ _ w h) (Or.inl ⟨by rfl, ?_⟩) hHeld ?_
      rotate_left
      · intro w0 hSw; (try dsimp only at hSw); obtain ⟨r1, r2⟩ := hSw; obtain ⟨s0, s1, s2, s3⟩ := enR r1; obtain ⟨t0, t1, t2, t3⟩ := enR r2; go_simp <;> with_reducible rfl
      try simp only [Act.put, List.getElem_toArray, List.getElem_cons_zero, List.getElem_cons_succ, List.setIfInBounds_toArray, List.set_cons_zero, List.set_cons_succ]
      refine wpAnyH_take (i := 2) (v := ?_) rfl (by kernel_rfl) (by kernel_rfl) (by kernel_rfl) (fun c a w h => hQ0 c a _ _ w h) (Or.inl ⟨by rfl, ?_⟩) hHeld ?_
      rotate_left
      · intro w0 hSw; (try dsimp only at hSw); obtain ⟨r1, r2⟩ := hSw; obtain ⟨s0, s1, s2, s3⟩ := enR r1; obtain ⟨t0, t1, t2, t3⟩ := enR r2; go_simp <;> with_reducible rfl
      try simp only [Act.put, List.getElem_toArray, List.getElem_cons_zero, List.getElem_cons_succ, List.setIfInBounds_toArray, List.set_cons_zero, List.set_cons_succ]
      refine wpAnyH_take (i := 3) (v := ?_) rfl (by kernel_rfl) (by kernel_rfl) (by kernel_rfl) (fun c a w h => hQ0 c a _ _ w h) (Or.inl ⟨by rfl, ?_⟩) hHeld ?_
      rotate_left
      · intro w0 hSw; (try dsimp only at hSw); obtain ⟨r1, r2⟩ := hSw; obtain ⟨s0, s1, s2, s3⟩ := enR r1; obtain ⟨t0, t1, t2, t3⟩ := enR r2; go_simp <;> with_reducible rfl
      try simp only [Act.put, List.getElem_toArray, List.getElem_cons_zero, List.getElem_cons_succ, List.setIfInBounds_toArray, List.set_cons_zero, List.set_cons_succ]
      refine wpAnyH_take (i := 4) (v := ?_) rfl (by kernel_rfl) (by kernel_rfl) (by kernel_rfl) (fun c a w h => hQ0 c a _ _ w h) (Or.inl ⟨by rfl, ?_⟩) hHeld ?_
      rotate_left
      · intro w0 hSw; (try dsimp only at hSw); obtain ⟨r1, r2⟩ := hSw; obtain ⟨s0, s1, s2, s3⟩ := enR r1; obtain ⟨t0, t1, t2, t3⟩ := enR r2; go_simp <;> with_reducible rfl
      try simp only [Act.put, List.getElem_toArray, List.getElem_cons_zero, List.getElem_cons_succ, List.setIfInBounds_toArray, List.set_cons_zero, List.set_cons_succ]
      refine wpAnyH_take (i := 5) (v := ?_) rfl (by kernel_rfl) (by kernel_rfl) (by kernel_rfl) (fun c a w h => hQ0 c a _ _ w h) (Or.inl ⟨by rfl, ?_⟩) hHeld ?_
      rotate_left
      · intro w0 hSw; (try dsimp only at hSw); obtain ⟨r1, r2⟩ := hSw; obtain ⟨s0, s1, s2, s3⟩ := enR r1; obtain ⟨t0, t1, t2, t3⟩ := enR r2; go_simp <;> with_reducible rfl
      try simp only [Act.put, List.getElem_toArray, List.getElem_cons_zero, List.getElem_cons_succ, List.setIfInBounds_toArray, List.set_cons_zero, List.set_cons_succ]
      refine wpAnyH_take (i := 6) (v := ?_) rfl (by kernel_rfl) (by kernel_rfl) (by kernel_rfl) (fun c a w h => hQ0 c a _ _ w h) (Or.inl ⟨by rfl, ?_⟩) hHeld ?_
      rotate_left
      · intro w0 hSw; (try dsimp only at hSw); obtain ⟨r1, r2⟩ := hSw; obtain ⟨s0, s1, s2, s3⟩ := enR r1; obtain ⟨t0, t1, t2, t3⟩ := enR r2; go_simp <;> with_reducible rfl
      try simp only [Act.put, List.getElem_toArray, List.getElem_cons_zero, List.getElem_cons_succ, List.setIfInBounds_toArray, List.set_cons_zero, List.set_cons_succ]
      refine wpAnyH_take (i := 7) (v := ?_) rfl (by kernel_rfl) (by kernel_rfl) (by kernel_rfl) (fun c a w h => hQ0 c a _ _ w h) (Or.inl ⟨by rfl, ?_⟩) hHeld ?_
      rotate_left
      · intro w0 hSw; (try dsimp only at hSw); obtain ⟨r1, r2⟩ := hSw; obtain ⟨s0, s1, s2, s3⟩ := enR r1; obtain ⟨t0, t1, t2, t3⟩ := enR r2; go_simp <;> with_reducible rfl
      try simp only [Act.put, List.getElem_toArray, List.getElem_cons_zero, List.getElem_cons_succ, List.setIfInBounds_toArray, List.set_cons_zero, List.set_cons_succ]
      refine wpAnyH_take (i := 8) (v := ?_) rfl (by kernel_rfl) (by kernel_rfl) (by kernel_rfl) (fun c a w h => hQ0 c a _ _ w h) (Or.inl ⟨by rfl, ?_⟩) hHeld ?_
      rotate_left
      · intro w0 hSw; (try dsimp only at hSw); obtain ⟨r1, r2⟩ := hSw; obtain ⟨s0, s1, s2, s3⟩ := enR r1; obtain ⟨t0, t1, t2, t3⟩ := enR r2; go_simp <;> with_reducible rfl
      try simp only [Act.put, List.getElem_toArray, List.getElem_cons_zero, List.getElem_cons_succ, List.setIfInBounds_toArray, List.set_cons_zero, List.set_cons_succ]
      refine wpAnyH_take (i := 9) (v := ?_) rfl (by kernel_rfl) (by kernel_rfl) (by kernel_rfl) (fun c a w h => hQ0 c a _ _ w h) (Or.inl ⟨by rfl, ?_⟩) hHeld ?_
      rotate_left
      · intro w0 hSw; (try dsimp only at hSw); obtain ⟨r1, r2⟩ := hSw; obtain ⟨s0, s1, s2, s3⟩ := enR r1; obtain ⟨t0, t1, t2, t3⟩ := enR r2; go_simp <;> with_reducible rfl
      try simp only [Act.put, List.getElem_toArray, List.getElem_cons_zero, List.getElem_cons_succ, List.setIfInBounds_toArray, List.set_cons_zero, List.set_cons_succ]
      refine wpAnyH_take (i := 10) (v := ?_) rfl (by kernel_rfl) (by kernel_rfl) (by kernel_rfl) (fun c a w h => hQ0 c a _ _ w h) (Or.inl ⟨by rfl, ?_⟩) hHeld ?_
      rotate_left
      · intro w0 hSw; (try dsimp only at hSw); obtain ⟨r1, r2⟩ := hSw; obtain ⟨s0, s1, s2, s3⟩ := enR r1; obtain ⟨t0, t1, t2, t3⟩ := enR r2; go_simp <;> with_reducible rfl
      try simp only [Act.put, List.getElem_toArray, List.getElem_cons_zero, List.getElem_cons_succ, List.setIfInBounds_toArray, List.set_cons_zero, List.set_cons_succ]
      refine wpAnyH_take (i := 11) (v := ?_) rfl (by kernel_rfl) (by kernel_rfl) (by kernel_rfl) (fun c a w h => hQ0 c a _ _ w h) (Or.inl ⟨by rfl, ?_⟩) hHeld ?_
      rotate_left
      · intro w0 hSw; (try dsimp only at hSw); obtain ⟨r1, r2⟩ := hSw; obtain ⟨s0, s1, s2, s3⟩ := enR r1; obtain ⟨t0, t1, t2, t3⟩ := enR r2; go_simp <;> with_reducible rfl
      try simp only [Act.put, List.getElem_toArray, List.getElem_cons_zero, List.getElem_cons_succ, List.setIfInBounds_toArray, List.set_cons_zero, List.set_cons_succ]
      refine wpAnyH_take (i := 12) (v := ?_) rfl (by kernel_rfl) (by kernel_rfl) (by kernel_rfl) (fun c a w h => hQ0 c a _ _ w h) (Or.inl ⟨by rfl, ?_⟩) hHeld ?_
      rotate_left
      · intro w0 hSw; (try dsimp only at hSw); obtain ⟨r1, r2⟩ := hSw; obtain ⟨s0, s1, s2, s3⟩ := enR r1; obtain ⟨t0, t1, t2, t3⟩ := enR r2; go_simp <;> with_reducible rfl
      try simp only [Act.put, List.getElem_toArray, List.getElem_cons_zero, List.getElem_cons_succ, List.setIfInBounds_toArray, List.set_cons_zero, List.set_cons_succ]
      refine wpAnyH_ready (rs := [13]) (by kernel_rfl) (by simp) ?_
      refine AllReadyH.cons rfl (fun K0 hK0 => ?_) AllReadyH.nil
      rw [if_pos (by first | (simp [Region.wanted]; done) | rfl)]
      go_simp
      refine (HC.out wr.drew ⟨rfl, rfl, rfl, Nat.le_refl _, fun _ _ => rfl⟩).mono ?_
      rintro e' V ⟨rfl, bV0⟩
      have bV : Below wr.heap.size wr V := ⟨bV0.os, bV0.tape, bV0.output, bV0.size, bV0.block⟩
      refine hK0.out _ _ ⟨range_below HRX.out bV, range_below HRY.out bV⟩ (fun hHeld => ?_)
      clear hK0 K0
      try simp only [Act.put, List.getElem_toArray, List.getElem_cons_zero, List.getElem_cons_succ, List.setIfInBounds_toArray, List.set_cons_zero, List.set_cons_succ]
      refine wpAnyH_take (i := 14) (v := ?_) rfl (by kernel_rfl) (by kernel_rfl) (by kernel_rfl) (fun c a w h => hQ0 c a _ _ w h) (Or.inl ⟨by rfl, ?_⟩) hHeld ?_
      rotate_left
      · intro w0 hSw; (try dsimp only at hSw); obtain ⟨r1, r2⟩ := hSw; obtain ⟨s0, s1, s2, s3⟩ := enR r1; obtain ⟨t0, t1, t2, t3⟩ := enR r2; go_simp <;> with_reducible rfl
      try simp only [Act.put, List.getElem_toArray, List.getElem_cons_zero, List.getElem_cons_succ, List.setIfInBounds_toArray, List.set_cons_zero, List.set_cons_succ]
      refine wpAnyH_done (by kernel_rfl) ?_ _
      have HRX2 : Hid (V.rangeAt g ((c + 1) * 4) (enCells x)) := range_below HRX.out bV
      have HRY2 : Hid (V.rangeAt g (c * 4) (enCells y)) := range_below HRY.out bV
      have HTV : Hid (V.there g 0 (nE * 4)) := there_below HTH.out bV hg2
      have HOV : Hid (RowsAt V g 4 enCells E') := HROW.out.below bV
      have HBV : Hid (Below g w V) := HBW.out.trans (bV.mono (by omega))
      have hgV : g < V.heap.size := Nat.lt_of_lt_of_le hg2 bV.size
      clear bV bV0 HC HRX HRY HTH HROW HBW hHeld
      cases hl : enLess R x y
      · go_wp2_with fail
        have hfin : ∃ E' : List EN, Below g w V ∧ E'.length = nE ∧ E'.Perm E0 ∧ (SortedTo R a E0 → SortedTo R (a + 1) E') ∧ RowsAt V g 4 enCells E' ∧ V.there g 0 (nE * 4) ∧ g < V.heap.size :=
          ⟨E', HBV.out, hlen, HP.out, fun hs => mid_end (HM.out hs) (.inr fun x' y' h1 h2 => by
            rw [HX.out] at h1; rw [Nat.add_sub_cancel, HY.out] at h2
            obtain rfl := Option.some.inj h1
            obtain rfl := Option.some.inj h2
            exact hl), HOV.out, HTV.out, hgV⟩
        first | exact hfin | exact HEND.out _ _ _ _ _ _ _ _ _ _ _ _ _ _ _ _ _ _ _ _ _ _ _ _ _ _ _ _ _ _ _ _ _ _ _ _ _ _ _ _ _ _ _ _ hfin
      · have hi148 : (Try.prog.info? 148).map (·.size) = some (enCells x).length := by kernel_rfl
        have hi148y : (Try.prog.info? 148).map (·.size) = some (enCells y).length := by kernel_rfl
        have hi148a : (Try.prog.info? 148).map (·.size) = some (enCells x).toArray.size := by kernel_rfl
        have hi148b : (Try.prog.info? 148).map (·.size) = some (enCells y).toArray.size := by kernel_rfl
        have LIT : Hid (∀ W : World, W.alloc (.cells (enCells x).toArray 148) = W.alloc (.cells #[.int .i64 x.rule, .string x.sensor, .int .i64 x.src, .string x.sev] 148)) := fun W => rfl
        have bV1 : Below V.heap.size V (V.alloc (.cells #[.int .i64 x.rule, .string x.sensor, .int .i64 x.src, .string x.sev] 148)) := (Below.refl _ _).alloc (Nat.le_refl _) _
        have hth1 : (V.alloc (.cells #[.int .i64 x.rule, .string x.sensor, .int .i64 x.src, .string x.sev] 148)).there g 0 (nE * 4) := there_below HTV.out bV1 hgV
        have HT1 : Hid ((V.alloc (.cells #[.int .i64 x.rule, .string x.sensor, .int .i64 x.src, .string x.sev] 148)).there g ((c + 1) * 4) (enCells y).toArray.size) := there_mono hth1 (by omega) (by simp [enCells]; omega)
        have ROW1 := HOV.out.below bV1
        obtain ⟨V2, HV2⟩ : ∃ V2, Hid (V2 = (V.alloc (.cells #[.int .i64 x.rule, .string x.sensor, .int .i64 x.src, .string x.sev] 148)).setCells g ((c + 1) * 4) (enCells y).toArray.toList) := ⟨_, rfl⟩
        have ROW2 : RowsAt V2 g 4 enCells (E'.set (c + 1) y) := by rw [HV2.out]; exact row_put ROW1 (there_mono hth1 (by omega) (by simp [enCells]; omega)) hbl y
        have hth2 : V2.there g 0 (nE * 4) := by rw [HV2.out]; exact World.there_setCells hth1 _ _ _
        have HT2 : Hid (V2.there g (c * 4) (enCells x).toArray.size) := there_mono hth2 (by omega) (by simp [enCells]; omega)
        have hne2 : ¬ V.heap.size = g := by omega
        have zz : ∀ k v, (#[Value.int .i64 x.rule, Value.string x.sensor, Value.int .i64 x.src, Value.string x.sev] : Array Value)[k]? = some v → V2.cell? ⟨V.heap.size, k, none⟩ = some v := by
          intro k v hv
          rw [HV2.out, World.cell?_setCells_out g _ _ _ _ (fun hb _ => absurd hb hne2)]
          unfold World.cell?
          rw [heap_alloc_new]
          simpa using hv
        have z0 : V2.cell? ⟨V.heap.size, 0, none⟩ = some (.int .i64 x.rule) := zz 0 _ rfl
        have z1 : V2.cell? ⟨V.heap.size, 1, none⟩ = some (.string x.sensor) := zz 1 _ rfl
        have z2 : V2.cell? ⟨V.heap.size, 2, none⟩ = some (.int .i64 x.src) := zz 2 _ rfl
        have z3 : V2.cell? ⟨V.heap.size, 3, none⟩ = some (.string x.sev) := zz 3 _ rfl
        have hs2 : V2.heap.size = V.heap.size + 1 := by rw [HV2.out, size_setCells]; simp
        have hB2 : Below g w V2 := by rw [HV2.out]; exact below_setCells (Nat.le_refl _) _ _ _ (HBV.out.trans (bV1.mono (by omega)))
        have hfin : ∃ (b : Nat) (E'' : List EN), b ≤ a ∧ (c : Int) = (b : Int) ∧ Below g w (V2.setCells g (c * 4) (enCells x).toArray.toList) ∧ E''.length = nE ∧ E''.Perm E0 ∧ (SortedTo R a E0 → MidS R a b E'') ∧ RowsAt (V2.setCells g (c * 4) (enCells x).toArray.toList) g 4 enCells E'' ∧ (V2.setCells g (c * 4) (enCells x).toArray.toList).there g 0 (nE * 4) ∧ g < (V2.setCells g (c * 4) (enCells x).toArray.toList).heap.size := by
          refine ⟨c, swapAt E' (c + 1) x y, by omega, rfl, below_setCells (Nat.le_refl _) _ _ _ hB2, by rw [swap_len]; exact hlen, (swap_perm (by omega) hbl HX.out HY.out).trans HP.out, fun hs => mid_swap (HM.out hs) (by omega) hba hbl HX.out HY.out hl, ?_, World.there_setCells hth2 _ _ _, by rw [size_setCells]; omega⟩
          exact row_put ROW2 (there_mono hth2 (by omega) (by simp [enCells]; omega)) (by simp; omega) x
        have HFIN : Hid _ := hfin
        obtain ⟨h0, h1, h2, h3⟩ := enR HRX2.out
        obtain ⟨k0, k1, k2, k3⟩ := enR HRY2.out
        clear hfin ROW1 ROW2 hth1 hth2 zz LIT bV1 hB2 HM HP HX HY
        go_wp2_with (first
          | (with_reducible show wpList _ _ _ (⟨none, .store 148 (.tmp 211) (.tmp 210), _, _, _, _⟩ :: _) _ _; refine wpList_store_mid ?_ 148 (.tmp 211) (.tmp 210) ?_ g ((c + 1) * 4) (enCells y).toArray ?_ ?_ HT1.out hi148b (enOneA y) ?_; exact rfl; exact rfl; simp [Act.eval]; simp [Act.eval, enCells]; rw [← HV2.out])
          | (with_reducible show wpList _ _ _ (⟨none, .store 148 (.tmp 216) (.tmp 215), _, _, _, _⟩ :: _) _ _; refine wpList_store_mid ?_ 148 (.tmp 216) (.tmp 215) ?_ g (c * 4) (enCells x).toArray ?_ ?_ HT2.out hi148a (enOneA x) ?_; exact rfl; exact rfl; simp [Act.eval]; simp [Act.eval, enCells]))
        obtain ⟨b, E'', q1, q2, q3, q4, q5, q6, q7, q8, q9⟩ := HFIN.out
        exact ⟨⟨b, E'', q1, by rw [q2], q3, q4, q5, q6, q7, q8, q9⟩, by simp [intOf]⟩
end
end Go.Proofs.Qxb6605676a.Kz
