import Derived.Test.Qxb6605676aKz54
namespace Go.Proofs.Qxb6605676a.Kz
set_option linter.unusedVariables false
set_option linter.unusedSimpArgs false
open Go.RowKit Go.Proofs.Qxb6605676a.Mp Go.Proofs.Qxb6605676a.Tm Go.Proofs.Qxb6605676a.En

section
variable {rz kb base g : Nat} {R : List RuleD} {K : List ZK} {E : List EN} {w wr : World}

set_option maxHeartbeats 6400000 in
set_option maxRecDepth 100000 in
theorem w61b_f (P0 : Act → World → Prop) (Q0 : Exit → Act → World → Prop) (hQ0 : ∀ c a d v w, Q0 (.panic c) (Act.put a d v) w → Q0 (.panic c) a w) (e : EN) (m kc ec : Nat) (he : E[m]? = some e) (hmn : m < E.length) (hE : E.length ≤ 4096) (hn : K.length ≤ 4096) (hRl : R.length ≤ 1000) (hRs : ∀ r ∈ R, r.sevs.length ≤ 1000)
    (r : RuleD) (hr : R[e.rule]? = some r) (s : ByteArray) (hs1 : r.sevs = [s]) (a : Nat) (za : ZK) (hza : K[a]? = some za) (ha : lastTo (alarmAt R K e.rule 0 e.sensor) K.length = a) (hst : (za.state.toList == [70, 73, 82, 73, 78, 71]) = true)
    (hR : Hid (RulesAt wr rz R ∧ rz < g)) (hK : Hid (KeysAt wr kb 0 K ∧ kb < g)) (hb : Hid (Below g w wr)) (hgl : g < wr.heap.size) (ho : Hid (RowsAt wr g 4 enCells E)) (hth : Hid (wr.there g 0 (E.length * 4))) (u13 u14 u15 u16 u17 u94 u95 u96 u97 u98 u99 u100 u101 u102 u103 u104 u105 u106 u107 u108 u109 u110 u111 u112 u113 u114 u115 u116 u117 u118 u119 u120 u121 u122 u123 u124 u125 u126 u127 u128 u129 u130 u131 u132 u133 u134 u135 u136 u137 u138 u139 u140 u141 u142 u143 u144 u145 u146 u147 u148 u149 u150 u151 u152 u153 u154 u155 u156 u157 u158 u159 u160 u161 u162 u163 u164 u165 u166 u167 u168 u169 u170 u171 u172 u173 u174 u175 c2 c3 c4 c6 c7 c8 c9 c10 c11 c18 c19 c20 c21 c22 c23 c24 c25 c26 c27 c28 c29 c30 c31 c32 c33 c34 c35 c36 c37 c38 c39 c40 c41 c42 c43 c44 c45 c46 c47 c48 c49 c50 c51 c52 c53 c54 c55 c56 c57 c58 c59 c60 c61 c62 c63 c64 c65 c66 c67 c68 c69 c70 c71 c72 c73 c74 c75 c76 c77 c78 c79 c80 c81 c82 c83 c84 c85 c86 c87 c88 c89 c90 c91 c92 c93 c176 c177 c178 c179 c180 c181 c182 c183 c184 c185 c186 c187 c188 c189 c190 c191 c192 c193 c194 c195 c196 c197 c198 c199 c200 c201 c202 c203 c204 c205 c206 c207 c208 c209 c210 c211 c212 c213 c214 c215 c216 c217 : Value)
    (hend : ∀ (v13 v14 v15 v16 v17 v94 v95 v96 v97 v98 v99 v100 v101 v102 v103 v104 v105 v106 v107 v108 v109 v110 v111 v112 v113 v114 v115 v116 v117 v118 v119 v120 v121 v122 v123 v124 v125 v126 v127 v128 v129 v130 v131 v132 v133 v134 v135 v136 v137 v138 v139 v140 v141 v142 v143 v144 v145 v146 v147 v148 v149 v150 v151 v152 v153 v154 v155 v156 v157 v158 v159 v160 v161 v162 v163 v164 v165 v166 v167 v168 v169 v170 v171 v172 v173 v174 v175 : Value) (w' : World), Below g w w' ∧ RowsAt w' g 4 enCells (E.set m ⟨e.rule, e.sensor, (a : Int), s⟩) ∧ w'.there g 0 (E.length * 4) ∧ g < w'.heap.size → P0 ⟨#[.slice (some ⟨rz, 0, none⟩) R.length R.length, .slice (some ⟨kb, 0, none⟩) K.length kc, c2, c3, c4, .slice (some ⟨g, 0, none⟩) E.length ec, c6, c7, c8, c9, c10, c11, .int .i64 ((m + 1 : Nat) : Int), v13, v14, v15, v16, v17, c18, c19, c20, c21, c22, c23, c24, c25, c26, c27, c28, c29, c30, c31, c32, c33, c34, c35, c36, c37, c38, c39, c40, c41, c42, c43, c44, c45, c46, c47, c48, c49, c50, c51, c52, c53, c54, c55, c56, c57, c58, c59, c60, c61, c62, c63, c64, c65, c66, c67, c68, c69, c70, c71, c72, c73, c74, c75, c76, c77, c78, c79, c80, c81, c82, c83, c84, c85, c86, c87, c88, c89, c90, c91, c92, c93, v94, v95, v96, v97, v98, v99, v100, v101, v102, v103, v104, v105, v106, v107, v108, v109, v110, v111, v112, v113, v114, v115, v116, v117, v118, v119, v120, v121, v122, v123, v124, v125, v126, v127, v128, v129, v130, v131, v132, v133, v134, v135, v136, v137, v138, v139, v140, v141, v142, v143, v144, v145, v146, v147, v148, v149, v150, v151, v152, v153, v154, v155, v156, v157, v158, v159, v160, v161, v162, v163, v164, v165, v166, v167, v168, v169, v170, v171, v172, v173, v174, v175, c176, c177, c178, c179, c180, c181, c182, c183, c184, c185, c186, c187, c188, c189, c190, c191, c192, c193, c194, c195, c196, c197, c198, c199, c200, c201, c202, c203, c204, c205, c206, c207, c208, c209, c210, c211, c212, c213, c214, c215, c216, c217], []⟩ w') :
    Code.wp Try.prog body61b (Exit.then P0 Q0) ⟨#[.slice (some ⟨rz, 0, none⟩) R.length R.length, .slice (some ⟨kb, 0, none⟩) K.length kc, c2, c3, c4, .slice (some ⟨g, 0, none⟩) E.length ec, c6, c7, c8, c9, c10, c11, .int .i64 m, u13, u14, u15, u16, u17, c18, c19, c20, c21, c22, c23, c24, c25, c26, c27, c28, c29, c30, c31, c32, c33, c34, c35, c36, c37, c38, c39, c40, c41, c42, c43, c44, c45, c46, c47, c48, c49, c50, c51, c52, c53, c54, c55, c56, c57, c58, c59, c60, c61, c62, c63, c64, c65, c66, c67, c68, c69, c70, c71, c72, c73, c74, c75, c76, c77, c78, c79, c80, c81, c82, c83, c84, c85, c86, c87, c88, c89, c90, c91, c92, c93, u94, u95, u96, u97, u98, u99, u100, u101, u102, u103, u104, u105, u106, u107, u108, u109, u110, u111, u112, u113, u114, u115, u116, u117, u118, u119, u120, u121, u122, u123, u124, u125, u126, u127, u128, u129, u130, u131, u132, u133, u134, u135, u136, u137, u138, u139, u140, u141, u142, u143, u144, u145, u146, u147, u148, u149, u150, u151, u152, u153, u154, u155, u156, u157, u158, u159, u160, u161, u162, u163, u164, u165, u166, u167, u168, u169, u170, u171, u172, u173, u174, u175, c176, c177, c178, c179, c180, c181, c182, c183, c184, c185, c186, c187, c188, c189, c190, c191, c192, c193, c194, c195, c196, c197, c198, c199, c200, c201, c202, c203, c204, c205, c206, c207, c208, c209, c210, c211, c212, c213, c214, c215, c216, c217], []⟩ wr := by
  conv => arg 2; whnf
  have HR0 : Hid (wr.rangeAt g (m * 4) (enCells e)) := ho.out m e he
  have hrR : e.rule < R.length := (List.getElem?_eq_some_iff.1 hr).1
  have HA : Hid (∀ V, Below wr.heap.size wr V → Calls Try.prog 70 #[.slice (some ⟨rz, 0, none⟩) R.length R.length, .slice (some ⟨kb, 0, none⟩) K.length kc, .int .i64 e.rule, .int .i64 0, .string e.sensor] V fun e' w' => e' = .returned (.int .i64 a) ∧ Below V.heap.size V w') := fun V hV => by
    have := zzlastAlarm_any R K e.rule 0 e.sensor rz (some ⟨kb, 0, none⟩) kc V (hR.out.1.below hV) hRl hRs (.inr ⟨kb, rfl, hK.out.1.below hV⟩) hn
    rw [ha] at this
    exact this
  have HEND : Hid _ := hend
  clear hend hRs ha
  obtain ⟨h0, h1, h2, h3⟩ := enR HR0.out
  go_wp2_with fail
  clear h0 h1 h2 h3
  refine wp_region_held_drew (S := (fun W => W.rangeAt g (m * 4) (enCells e))) (by kernel_rfl) HR0.out (fun hHeld => ?_)
  refine wpAnyH_take (i := 0) (v := ?_) rfl (by kernel_rfl) (by kernel_rfl) (by kernel_rfl) (fun c a w h => hQ0 c a _ _ w h) (Or.inl ⟨by rfl, ?_⟩) hHeld ?_
  rotate_left
  · intro w0 hSw; (try dsimp only at hSw); obtain ⟨s0, s1, s2, s3⟩ := enR hSw; go_simp <;> with_reducible rfl
  try simp only [Act.put, List.getElem_toArray, List.getElem_cons_zero, List.getElem_cons_succ, List.setIfInBounds_toArray, List.set_cons_zero, List.set_cons_succ]
  refine wpAnyH_take (i := 1) (v := ?_) rfl (by kernel_rfl) (by kernel_rfl) (by kernel_rfl) (fun c a w h => hQ0 c a _ _ w h) (Or.inl ⟨by rfl, ?_⟩) hHeld ?_
  rotate_left
  · intro w0 hSw; (try dsimp only at hSw); obtain ⟨s0, s1, s2, s3⟩ := enR hSw; go_simp <;> with_reducible rfl
  try simp only [Act.put, List.getElem_toArray, List.getElem_cons_zero, List.getElem_cons_succ, List.setIfInBounds_toArray, List.set_cons_zero, List.set_cons_succ]
  refine wpAnyH_take (i := 2) (v := ?_) rfl (by kernel_rfl) (by kernel_rfl) (by kernel_rfl) (fun c a w h => hQ0 c a _ _ w h) (Or.inl ⟨by rfl, ?_⟩) hHeld ?_
  rotate_left
  · intro w0 hSw; (try dsimp only at hSw); obtain ⟨s0, s1, s2, s3⟩ := enR hSw; go_simp <;> with_reducible rfl
  try simp only [Act.put, List.getElem_toArray, List.getElem_cons_zero, List.getElem_cons_succ, List.setIfInBounds_toArray, List.set_cons_zero, List.set_cons_succ]
  refine wpAnyH_take (i := 3) (v := ?_) rfl (by kernel_rfl) (by kernel_rfl) (by kernel_rfl) (fun c a w h => hQ0 c a _ _ w h) (Or.inl ⟨by rfl, ?_⟩) hHeld ?_
  rotate_left
  · intro w0 hSw; (try dsimp only at hSw); obtain ⟨s0, s1, s2, s3⟩ := enR hSw; go_simp <;> with_reducible rfl
  try simp only [Act.put, List.getElem_toArray, List.getElem_cons_zero, List.getElem_cons_succ, List.setIfInBounds_toArray, List.set_cons_zero, List.set_cons_succ]
  refine wpAnyH_take (i := 4) (v := ?_) rfl (by kernel_rfl) (by kernel_rfl) (by kernel_rfl) (fun c a w h => hQ0 c a _ _ w h) (Or.inl ⟨by rfl, ?_⟩) hHeld ?_
  rotate_left
  · intro w0 hSw; (try dsimp only at hSw); obtain ⟨s0, s1, s2, s3⟩ := enR hSw; go_simp <;> with_reducible rfl
  try simp only [Act.put, List.getElem_toArray, List.getElem_cons_zero, List.getElem_cons_succ, List.setIfInBounds_toArray, List.set_cons_zero, List.set_cons_succ]
  refine wpAnyH_take (i := 5) (v := ?_) rfl (by kernel_rfl) (by kernel_rfl) (by kernel_rfl) (fun c a w h => hQ0 c a _ _ w h) (Or.inl ⟨by rfl, ?_⟩) hHeld ?_
  rotate_left
  · intro w0 hSw; (try dsimp only at hSw); obtain ⟨s0, s1, s2, s3⟩ := enR hSw; go_simp <;> with_reducible rfl
  try simp only [Act.put, List.getElem_toArray, List.getElem_cons_zero, List.getElem_cons_succ, List.setIfInBounds_toArray, List.set_cons_zero, List.set_cons_succ]
  refine wpAnyH_take (i := 6) (v := ?_) rfl (by kernel_rfl) (by kernel_rfl) (by kernel_rfl) (fun c a w h => hQ0 c a _ _ w h) (Or.inl ⟨by rfl, ?_⟩) hHeld ?_
  rotate_left
  · intro w0 hSw; (try dsimp only at hSw); obtain ⟨s0, s1, s2, s3⟩ := enR hSw; go_simp <;> with_reducible rfl
  try simp only [Act.put, List.getElem_toArray, List.getElem_cons_zero, List.getElem_cons_succ, List.setIfInBounds_toArray, List.set_cons_zero, List.set_cons_succ]
  refine wpAnyH_take (i := 7) (v := ?_) rfl (by kernel_rfl) (by kernel_rfl) (by kernel_rfl) (fun c a w h => hQ0 c a _ _ w h) (Or.inl ⟨by rfl, ?_⟩) hHeld ?_
  rotate_left
  · intro w0 hSw; (try dsimp only at hSw); obtain ⟨s0, s1, s2, s3⟩ := enR hSw; go_simp <;> with_reducible rfl
  try simp only [Act.put, List.getElem_toArray, List.getElem_cons_zero, List.getElem_cons_succ, List.setIfInBounds_toArray, List.set_cons_zero, List.set_cons_succ]
  refine wpAnyH_take (i := 8) (v := ?_) rfl (by kernel_rfl) (by kernel_rfl) (by kernel_rfl) (fun c a w h => hQ0 c a _ _ w h) (Or.inl ⟨by rfl, ?_⟩) hHeld ?_
  rotate_left
  · intro w0 hSw; (try dsimp only at hSw); obtain ⟨s0, s1, s2, s3⟩ := enR hSw; go_simp <;> with_reducible rfl
  try simp only [Act.put, List.getElem_toArray, List.getElem_cons_zero, List.getElem_cons_succ, List.setIfInBounds_toArray, List.set_cons_zero, List.set_cons_succ]
  refine wpAnyH_take (i := 9) (v := ?_) rfl (by kernel_rfl) (by kernel_rfl) (by kernel_rfl) (fun c a w h => hQ0 c a _ _ w h) (Or.inl ⟨by rfl, ?_⟩) hHeld ?_
  rotate_left
  · intro w0 hSw; (try dsimp only at hSw); obtain ⟨s0, s1, s2, s3⟩ := enR hSw; go_simp <;> with_reducible rfl
  try simp only [Act.put, List.getElem_toArray, List.getElem_cons_zero, List.getElem_cons_succ, List.setIfInBounds_toArray, List.set_cons_zero, List.set_cons_succ]
  refine wpAnyH_take (i := 10) (v := ?_) rfl (by kernel_rfl) (by kernel_rfl) (by kernel_rfl) (fun c a w h => hQ0 c a _ _ w h) (Or.inl ⟨by rfl, ?_⟩) hHeld ?_
  rotate_left
  · intro w0 hSw; (try dsimp only at hSw); obtain ⟨s0, s1, s2, s3⟩ := enR hSw; go_simp <;> with_reducible rfl
  try simp only [Act.put, List.getElem_toArray, List.getElem_cons_zero, List.getElem_cons_succ, List.setIfInBounds_toArray, List.set_cons_zero, List.set_cons_succ]
  refine wpAnyH_take (i := 11) (v := ?_) rfl (by kernel_rfl) (by kernel_rfl) (by kernel_rfl) (fun c a w h => hQ0 c a _ _ w h) (Or.inl ⟨by rfl, ?_⟩) hHeld ?_
  rotate_left
  · intro w0 hSw; (try dsimp only at hSw); obtain ⟨s0, s1, s2, s3⟩ := enR hSw; go_simp <;> with_reducible rfl
  try simp only [Act.put, List.getElem_toArray, List.getElem_cons_zero, List.getElem_cons_succ, List.setIfInBounds_toArray, List.set_cons_zero, List.set_cons_succ]
  refine wpAnyH_ready (rs := [12]) (by kernel_rfl) (by simp) ?_
  refine AllReadyH.cons rfl (fun K0 hK0 => ?_) AllReadyH.nil
  rw [if_pos (by simp [Region.wanted])]
  go_simp
  refine (HA.out wr.drew ⟨rfl, rfl, rfl, Nat.le_refl _, fun _ _ => rfl⟩).mono ?_
  rintro e' V ⟨rfl, bV0⟩
  have bV : Below wr.heap.size wr V := ⟨bV0.os, bV0.tape, bV0.output, bV0.size, bV0.block⟩
  refine hK0.out _ _ (range_below HR0.out bV) (fun hHeld => ?_)
  clear hK0 K0
  try simp only [Act.put, List.getElem_toArray, List.getElem_cons_zero, List.getElem_cons_succ, List.setIfInBounds_toArray, List.set_cons_zero, List.set_cons_succ]
  refine wpAnyH_take (i := 13) (v := ?_) rfl (by kernel_rfl) (by kernel_rfl) (by kernel_rfl) (fun c a w h => hQ0 c a _ _ w h) (Or.inl ⟨by rfl, ?_⟩) hHeld ?_
  rotate_left
  · intro w0 hSw; (try dsimp only at hSw); obtain ⟨s0, s1, s2, s3⟩ := enR hSw; go_simp <;> with_reducible rfl
  try simp only [Act.put, List.getElem_toArray, List.getElem_cons_zero, List.getElem_cons_succ, List.setIfInBounds_toArray, List.set_cons_zero, List.set_cons_succ]
  refine wpAnyH_done (by kernel_rfl) ?_ _
  obtain ⟨d0, d1, sb, d2, d3⟩ := (hR.out.1.below bV) e.rule r hr
  have hs0 : V.cell? ⟨sb, 0, none⟩ = some (.string s) := d3 0 s (by rw [hs1]; rfl)
  rw [hs1] at d2
  simp only [List.length_singleton] at d2
  obtain ⟨hal, hza2⟩ := List.getElem?_eq_some_iff.1 hza
  have hkr : V.rangeAt kb (a * 11) (zkCells za) := by
    have := (hK.out.1.below bV).range a hal
    rw [hza2, Nat.zero_add] at this
    exact this
  obtain ⟨f0, f1, f2, f3, f4, f5, f6, f7, f8, f9, f10⟩ := zkR hkr
  obtain ⟨h0, h1, h2, h3⟩ := enR (range_below HR0.out bV)
  have hthV : V.there g 0 (E.length * 4) := there_below hth.out bV hgl
  have t2 := (hthV (m * 4 + 2) (by omega)).2
  have t3 := (hthV (m * 4 + 3) (by omega)).2
  rw [Nat.zero_add] at t2 t3
  have HTV : Hid (V.there g 0 (E.length * 4)) := hthV
  have HOV : Hid (RowsAt V g 4 enCells E) := ho.out.below bV
  have HBV : Hid (Below g w V) := hb.out.trans (bV.mono (by omega))
  have hgV : g < V.heap.size := Nat.lt_of_lt_of_le hgl bV.size
  clear hkr hthV HA HR0 hR hK ho hth bV bV0 d3 hHeld
  go_wp2_with fail
  refine wp_loop_rounds 1 ?_
  rw [rounds_succ]
  go_wp2_with fail
  have hfin : Below g w (V.setCells g (m * 4 + 2) [.int .i64 a, .string s]) ∧ RowsAt (V.setCells g (m * 4 + 2) [.int .i64 a, .string s]) g 4 enCells (E.set m ⟨e.rule, e.sensor, (a : Int), s⟩) ∧ (V.setCells g (m * 4 + 2) [.int .i64 a, .string s]).there g 0 (E.length * 4) ∧ g < (V.setCells g (m * 4 + 2) [.int .i64 a, .string s]).heap.size :=
    ⟨below_setCells (Nat.le_refl _) _ _ _ HBV.out, en_set2 HOV.out HTV.out hmn he _ _, World.there_setCells HTV.out _ _ _, by rw [size_setCells]; exact hgV⟩
  first | exact hfin | exact HEND.out _ _ _ _ _ _ _ _ _ _ _ _ _ _ _ _ _ _ _ _ _ _ _ _ _ _ _ _ _ _ _ _ _ _ _ _ _ _ _ _ _ _ _ _ _ _ _ _ _ _ _ _ _ _ _ _ _ _ _ _ _ _ _ _ _ _ _ _ _ _ _ _ _ _ _ _ _ _ _ _ _ _ _ _ _ _ _ _ hfin

end
end Go.Proofs.Qxb6605676a.Kz
