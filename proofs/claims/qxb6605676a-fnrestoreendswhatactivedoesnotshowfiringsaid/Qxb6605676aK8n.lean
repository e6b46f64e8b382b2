import Derived.Test.Qxb6605676aKz48
namespace Go.Proofs.Qxb6605676a.Kz
set_option linter.unusedVariables false
set_option linter.unusedSimpArgs false
open Go.RowKit Go.Proofs.Qxb6605676a.Mp Go.Proofs.Qxb6605676a.Tm Go.Proofs.Qxb6605676a.En

section
variable {tb o ga : Nat} {D : List AcR} {w wr : World}

set_option maxHeartbeats 6400000 in
set_option maxRecDepth 100000 in
theorem w6_n (P0 : Act → World → Prop) (Q0 : Exit → Act → World → Prop) (hQ0 : ∀ c a d v w, Q0 (.panic c) (Act.put a d v) w → Q0 (.panic c) a w) (q : ZR) (j n0 nT nD tc ca : Nat) (hjn : j < nT) (hn : nT ≤ 4096) (hn0 : n0 ≤ j) (hnD : Hid (nD = D.length)) (hD : nD ≤ 4096) (hok : ZR.Ok q) (hnf : Hid (∀ a ∈ D, (a.rule.toList == q.rule.toList && a.sensor.toList == q.sensor.toList && a.state.toList == [70, 73, 82, 73, 78, 71]) = false)) (g nE ec : Nat) (hnE : n0 < nE) (hnE2 : nE ≤ 4096) (ets : Int) (es em : ByteArray) (ev : Nat) (hG : Hid (wr.rangeAt g (n0 * 13) (tcs q [.int .u64 (ets % 1000000000), .int .i64 (ets / 1000000000), .pointer none, .string es, .string em, .float .f64 ev]))) 
    (hA : Hid (RowsAt wr ga 12 acCells D)) (hr : Hid (wr.rangeAt tb (o + j * 7) (zrCells q))) (hb : Hid (Below w.heap.size w wr)) (u14 u21 u22 u23 u24 u88 u89 u90 u91 u92 u93 u94 u95 u96 u97 u98 u99 u100 u101 u102 u103 u104 u105 u106 u107 u108 u109 u110 u111 u112 u113 u114 u115 u116 u117 u118 u119 u120 u121 u122 u123 u124 u125 u126 u127 u128 u129 u130 u131 u132 u133 u134 u135 u136 u137 u138 u139 u140 u141 u142 u143 u144 u145 u146 u147 u148 u149 u150 u151 u152 u153 u154 u155 u156 u157 u158 u159 u160 u161 u162 u163 u164 u165 u166 u167 u168 u169 u170 u171 u172 u173 u174 u175 u176 u177 u178 u179 u180 u181 u182 c0 c1 c2 c3 c4 c5 c7 c8 c9 c10 c11 c12 c13 c15 c16 c25 c26 c27 c28 c29 c30 c31 c32 c33 c34 c35 c36 c37 c38 c39 c40 c41 c42 c43 c44 c45 c46 c47 c48 c49 c50 c51 c52 c53 c54 c55 c56 c57 c58 c59 c60 c61 c62 c63 c64 c65 c66 c67 c68 c69 c70 c71 c72 c73 c74 c75 c76 c77 c78 c79 c80 c81 c82 c83 c84 c85 c86 c87 c183 c184 c185 c186 : Value)
    (hend : ∀ (v14 v21 v22 v23 v24 v88 v89 v90 v91 v92 v93 v94 v95 v96 v97 v98 v99 v100 v101 v102 v103 v104 v105 v106 v107 v108 v109 v110 v111 v112 v113 v114 v115 v116 v117 v118 v119 v120 v121 v122 v123 v124 v125 v126 v127 v128 v129 v130 v131 v132 v133 v134 v135 v136 v137 v138 v139 v140 v141 v142 v143 v144 v145 v146 v147 v148 v149 v150 v151 v152 v153 v154 v155 v156 v157 v158 v159 v160 v161 v162 v163 v164 v165 v166 v167 v168 v169 v170 v171 v172 v173 v174 v175 v176 v177 v178 v179 v180 v181 v182 : Value) (w' : World), Below w.heap.size w w' → P0 ⟨#[c0, c1, c2, c3, c4, c5, .slice (some ⟨tb, o, none⟩) nT tc, c7, c8, c9, c10, c11, c12, c13, v14, c15, c16, .slice (some ⟨g, 0, none⟩) nE ec, .slice (some ⟨ga, 0, none⟩) nD ca, .int .i64 ((n0 + 1 : Nat) : Int), .int .i64 ((j + 1 : Nat) : Int), v21, v22, v23, v24, c25, c26, c27, c28, c29, c30, c31, c32, c33, c34, c35, c36, c37, c38, c39, c40, c41, c42, c43, c44, c45, c46, c47, c48, c49, c50, c51, c52, c53, c54, c55, c56, c57, c58, c59, c60, c61, c62, c63, c64, c65, c66, c67, c68, c69, c70, c71, c72, c73, c74, c75, c76, c77, c78, c79, c80, c81, c82, c83, c84, c85, c86, c87, v88, v89, v90, v91, v92, v93, v94, v95, v96, v97, v98, v99, v100, v101, v102, v103, v104, v105, v106, v107, v108, v109, v110, v111, v112, v113, v114, v115, v116, v117, v118, v119, v120, v121, v122, v123, v124, v125, v126, v127, v128, v129, v130, v131, v132, v133, v134, v135, v136, v137, v138, v139, v140, v141, v142, v143, v144, v145, v146, v147, v148, v149, v150, v151, v152, v153, v154, v155, v156, v157, v158, v159, v160, v161, v162, v163, v164, v165, v166, v167, v168, v169, v170, v171, v172, v173, v174, v175, v176, v177, v178, v179, v180, v181, v182, c183, c184, c185, c186], []⟩ w') :
    Code.wp Try.prog body6 (Exit.then P0 Q0) ⟨#[c0, c1, c2, c3, c4, c5, .slice (some ⟨tb, o, none⟩) nT tc, c7, c8, c9, c10, c11, c12, c13, u14, c15, c16, .slice (some ⟨g, 0, none⟩) nE ec, .slice (some ⟨ga, 0, none⟩) nD ca, .int .i64 n0, .int .i64 j, u21, u22, u23, u24, c25, c26, c27, c28, c29, c30, c31, c32, c33, c34, c35, c36, c37, c38, c39, c40, c41, c42, c43, c44, c45, c46, c47, c48, c49, c50, c51, c52, c53, c54, c55, c56, c57, c58, c59, c60, c61, c62, c63, c64, c65, c66, c67, c68, c69, c70, c71, c72, c73, c74, c75, c76, c77, c78, c79, c80, c81, c82, c83, c84, c85, c86, c87, u88, u89, u90, u91, u92, u93, u94, u95, u96, u97, u98, u99, u100, u101, u102, u103, u104, u105, u106, u107, u108, u109, u110, u111, u112, u113, u114, u115, u116, u117, u118, u119, u120, u121, u122, u123, u124, u125, u126, u127, u128, u129, u130, u131, u132, u133, u134, u135, u136, u137, u138, u139, u140, u141, u142, u143, u144, u145, u146, u147, u148, u149, u150, u151, u152, u153, u154, u155, u156, u157, u158, u159, u160, u161, u162, u163, u164, u165, u166, u167, u168, u169, u170, u171, u172, u173, u174, u175, u176, u177, u178, u179, u180, u181, u182, c183, c184, c185, c186], []⟩ wr := by
  conv => arg 2; whnf
  obtain ⟨f0, f1, f2, f3, f4, f5, f6⟩ := zrR hr.out
  have HEND : Hid _ := hend
  clear hend
  obtain ⟨V, rfl⟩ : ∃ V, V = wr := ⟨_, rfl⟩
  go_wp2_with fail
  clear f0 f1 f2 f3 f4 f5 f6
  go_loopw [22, 23] (fun b x wr2 => ∃ k : Nat, k ≤ nD ∧ b = .bool false ∧ x = .int .i64 k ∧ Below V.heap.size V wr2) (fun _ x _ => nD - (intOf x).toNat)
  case atStart => exact ⟨0, Nat.zero_le _, rfl, rfl, Below.refl _ _⟩
  case round =>
   obtain ⟨k, hk, rfl, rfl, hb2⟩ := hrel
   by_cases hkn : k < nD
   · have hkD : k < D.length := by have := hnD.out; omega
     have hat : D[k]? = some D[k] := by simp
     have hr2 : wr.rangeAt ga (k * 12) (acCells D[k]) := range_below (hA.out k _ hat) hb2
     have hkm : (D[k].rule.toList == q.rule.toList && D[k].sensor.toList == q.sensor.toList && D[k].state.toList == [70, 73, 82, 73, 78, 71]) = false := hnf.out D[k] (List.getElem_mem hkD)
     generalize D[k] = a at *
     obtain ⟨h0, h1, h2, h3, h4, h5, h6, h7, h8, h9, h10, h11⟩ := acR hr2
     obtain ⟨f0, f1, f2, f3, f4, f5, f6⟩ := zrR (range_below hr.out hb2)
     have HKM : Hid ((a.rule.toList == q.rule.toList && a.sensor.toList == q.sensor.toList && a.state.toList == [70, 73, 82, 73, 78, 71]) = false) := hkm
     clear hr2 hkm
     cases hs : (a.rule.toList == q.rule.toList)
     · have hs' : ¬ a.rule.toList = q.rule.toList := by simpa using hs
       go_wp2
       go_quiet (fail)
       go_wp2
       exact ⟨⟨k + 1, by omega, rfl, by go_num, below_drewN hb2 _⟩, by simp [intOf]; omega⟩
     · have hs' : a.rule.toList = q.rule.toList := by simpa using hs
       cases hse : (a.sensor.toList == q.sensor.toList)
       · have hse' : ¬ a.sensor.toList = q.sensor.toList := by simpa using hse
         go_wp2
         go_quiet (fail)
         go_wp2
         exact ⟨⟨k + 1, by omega, rfl, by go_num, below_drewN hb2 _⟩, by simp [intOf]; omega⟩
       · have hse' : a.sensor.toList = q.sensor.toList := by simpa using hse
         cases hst : (a.state.toList == [70, 73, 82, 73, 78, 71])
         · have hst' : ¬ a.state.toList = [70, 73, 82, 73, 78, 71] := by simpa using hst
           go_wp2
           go_quiet (fail)
           go_wp2
           exact ⟨⟨k + 1, by omega, rfl, by go_num, below_drewN hb2 _⟩, by simp [intOf]; omega⟩
         · exfalso
           have := HKM.out
           rw [hs, hse, hst] at this
           cases this
   · have HR3 : Hid (wr.rangeAt tb (o + j * 7) (zrCells q)) := range_below hr.out hb2
     have HG3 : Hid (wr.rangeAt g (n0 * 13) (tcs q [.int .u64 (ets % 1000000000), .int .i64 (ets / 1000000000), .pointer none, .string es, .string em, .float .f64 ev])) := range_below hG.out hb2
     have HB3 : Hid (Below w.heap.size w wr) := Below.step hb.out hb2
     obtain ⟨f0, f1, f2, f3, f4, f5, f6⟩ := zrR HR3.out
     obtain ⟨g0, g1, g2, g3, g4, g5, g6, g7, g8, g9, g10, g11, g12⟩ := tcsR HG3.out
     clear hr hG hb hA hb2 hnf
     go_wp2_with fail
     clear g0 g1 g2 g3 g4 g5 g6 g7 g8 g9 g10 g11 g12 f0 f1 f2 f3 f4 f5 f6
     refine wp_region_held_drew (S := (fun W => W.rangeAt g (n0 * 13) (tcs q [.int .u64 (ets % 1000000000), .int .i64 (ets / 1000000000), .pointer none, .string es, .string em, .float .f64 ev]) ∧ W.rangeAt tb (o + j * 7) (zrCells q))) (by kernel_rfl) ⟨HG3.out, HR3.out⟩ (fun hHeld => ?_)
     refine wpAnyH_take (i := 0) (v := ?_) rfl (by kernel_rfl) (by kernel_rfl) (by kernel_rfl) (fun c a w h => hQ0 c a _ _ w h) (Or.inl ⟨by rfl, ?_⟩) hHeld ?_
     rotate_left
     · intro w0 hSw; (try dsimp only at hSw); obtain ⟨r1, r2⟩ := hSw; obtain ⟨g0, g1, g2, g3, g4, g5, g6, g7, g8, g9, g10, g11, g12⟩ := tcsR r1; obtain ⟨f0, f1, f2, f3, f4, f5, f6⟩ := zrR r2; go_simp <;> with_reducible rfl
     try simp only [Act.put, List.getElem_toArray, List.getElem_cons_zero, List.getElem_cons_succ, List.setIfInBounds_toArray, List.set_cons_zero, List.set_cons_succ]
     refine wpAnyH_take (i := 1) (v := ?_) rfl (by kernel_rfl) (by kernel_rfl) (by kernel_rfl) (fun c a w h => hQ0 c a _ _ w h) (Or.inl ⟨by rfl, ?_⟩) hHeld ?_
     rotate_left
     · intro w0 hSw; (try dsimp only at hSw); obtain ⟨r1, r2⟩ := hSw; obtain ⟨g0, g1, g2, g3, g4, g5, g6, g7, g8, g9, g10, g11, g12⟩ := tcsR r1; obtain ⟨f0, f1, f2, f3, f4, f5, f6⟩ := zrR r2; go_simp <;> with_reducible rfl
     try simp only [Act.put, List.getElem_toArray, List.getElem_cons_zero, List.getElem_cons_succ, List.setIfInBounds_toArray, List.set_cons_zero, List.set_cons_succ]
     refine wpAnyH_take (i := 2) (v := ?_) rfl (by kernel_rfl) (by kernel_rfl) (by kernel_rfl) (fun c a w h => hQ0 c a _ _ w h) (Or.inl ⟨by rfl, ?_⟩) hHeld ?_
     rotate_left
     · intro w0 hSw; (try dsimp only at hSw); obtain ⟨r1, r2⟩ := hSw; obtain ⟨g0, g1, g2, g3, g4, g5, g6, g7, g8, g9, g10, g11, g12⟩ := tcsR r1; obtain ⟨f0, f1, f2, f3, f4, f5, f6⟩ := zrR r2; go_simp <;> with_reducible rfl
     try simp only [Act.put, List.getElem_toArray, List.getElem_cons_zero, List.getElem_cons_succ, List.setIfInBounds_toArray, List.set_cons_zero, List.set_cons_succ]
     refine wpAnyH_take (i := 3) (v := ?_) rfl (by kernel_rfl) (by kernel_rfl) (by kernel_rfl) (fun c a w h => hQ0 c a _ _ w h) (Or.inl ⟨by rfl, ?_⟩) hHeld ?_
     rotate_left
     · intro w0 hSw; (try dsimp only at hSw); obtain ⟨r1, r2⟩ := hSw; obtain ⟨g0, g1, g2, g3, g4, g5, g6, g7, g8, g9, g10, g11, g12⟩ := tcsR r1; obtain ⟨f0, f1, f2, f3, f4, f5, f6⟩ := zrR r2; go_simp <;> with_reducible rfl
     try simp only [Act.put, List.getElem_toArray, List.getElem_cons_zero, List.getElem_cons_succ, List.setIfInBounds_toArray, List.set_cons_zero, List.set_cons_succ]
     refine wpAnyH_take (i := 4) (v := ?_) rfl (by kernel_rfl) (by kernel_rfl) (by kernel_rfl) (fun c a w h => hQ0 c a _ _ w h) (Or.inl ⟨by rfl, ?_⟩) hHeld ?_
     rotate_left
     · intro w0 hSw; (try dsimp only at hSw); obtain ⟨r1, r2⟩ := hSw; obtain ⟨g0, g1, g2, g3, g4, g5, g6, g7, g8, g9, g10, g11, g12⟩ := tcsR r1; obtain ⟨f0, f1, f2, f3, f4, f5, f6⟩ := zrR r2; go_simp <;> with_reducible rfl
     try simp only [Act.put, List.getElem_toArray, List.getElem_cons_zero, List.getElem_cons_succ, List.setIfInBounds_toArray, List.set_cons_zero, List.set_cons_succ]
     refine wpAnyH_take (i := 5) (v := ?_) rfl (by kernel_rfl) (by kernel_rfl) (by kernel_rfl) (fun c a w h => hQ0 c a _ _ w h) (Or.inl ⟨by rfl, ?_⟩) hHeld ?_
     rotate_left
     · intro w0 hSw; (try dsimp only at hSw); obtain ⟨r1, r2⟩ := hSw; obtain ⟨g0, g1, g2, g3, g4, g5, g6, g7, g8, g9, g10, g11, g12⟩ := tcsR r1; obtain ⟨f0, f1, f2, f3, f4, f5, f6⟩ := zrR r2; go_simp <;> with_reducible rfl
     try simp only [Act.put, List.getElem_toArray, List.getElem_cons_zero, List.getElem_cons_succ, List.setIfInBounds_toArray, List.set_cons_zero, List.set_cons_succ]
     refine wpAnyH_take (i := 6) (v := ?_) rfl (by kernel_rfl) (by kernel_rfl) (by kernel_rfl) (fun c a w h => hQ0 c a _ _ w h) (Or.inl ⟨by rfl, ?_⟩) hHeld ?_
     rotate_left
     · intro w0 hSw; (try dsimp only at hSw); obtain ⟨r1, r2⟩ := hSw; obtain ⟨g0, g1, g2, g3, g4, g5, g6, g7, g8, g9, g10, g11, g12⟩ := tcsR r1; obtain ⟨f0, f1, f2, f3, f4, f5, f6⟩ := zrR r2; go_simp <;> with_reducible rfl
     try simp only [Act.put, List.getElem_toArray, List.getElem_cons_zero, List.getElem_cons_succ, List.setIfInBounds_toArray, List.set_cons_zero, List.set_cons_succ]
     refine wpAnyH_take (i := 7) (v := ?_) rfl (by kernel_rfl) (by kernel_rfl) (by kernel_rfl) (fun c a w h => hQ0 c a _ _ w h) (Or.inl ⟨by rfl, ?_⟩) hHeld ?_
     rotate_left
     · intro w0 hSw; (try dsimp only at hSw); obtain ⟨r1, r2⟩ := hSw; obtain ⟨g0, g1, g2, g3, g4, g5, g6, g7, g8, g9, g10, g11, g12⟩ := tcsR r1; obtain ⟨f0, f1, f2, f3, f4, f5, f6⟩ := zrR r2; go_simp <;> with_reducible rfl
     try simp only [Act.put, List.getElem_toArray, List.getElem_cons_zero, List.getElem_cons_succ, List.setIfInBounds_toArray, List.set_cons_zero, List.set_cons_succ]
     refine wpAnyH_take (i := 8) (v := ?_) rfl (by kernel_rfl) (by kernel_rfl) (by kernel_rfl) (fun c a w h => hQ0 c a _ _ w h) (Or.inl ⟨by rfl, ?_⟩) hHeld ?_
     rotate_left
     · intro w0 hSw; (try dsimp only at hSw); obtain ⟨r1, r2⟩ := hSw; obtain ⟨g0, g1, g2, g3, g4, g5, g6, g7, g8, g9, g10, g11, g12⟩ := tcsR r1; obtain ⟨f0, f1, f2, f3, f4, f5, f6⟩ := zrR r2; go_simp <;> with_reducible rfl
     try simp only [Act.put, List.getElem_toArray, List.getElem_cons_zero, List.getElem_cons_succ, List.setIfInBounds_toArray, List.set_cons_zero, List.set_cons_succ]
     refine wpAnyH_take (i := 9) (v := ?_) rfl (by kernel_rfl) (by kernel_rfl) (by kernel_rfl) (fun c a w h => hQ0 c a _ _ w h) (Or.inl ⟨by rfl, ?_⟩) hHeld ?_
     rotate_left
     · intro w0 hSw; (try dsimp only at hSw); obtain ⟨r1, r2⟩ := hSw; obtain ⟨g0, g1, g2, g3, g4, g5, g6, g7, g8, g9, g10, g11, g12⟩ := tcsR r1; obtain ⟨f0, f1, f2, f3, f4, f5, f6⟩ := zrR r2; go_simp <;> with_reducible rfl
     try simp only [Act.put, List.getElem_toArray, List.getElem_cons_zero, List.getElem_cons_succ, List.setIfInBounds_toArray, List.set_cons_zero, List.set_cons_succ]
     refine wpAnyH_take (i := 10) (v := ?_) rfl (by kernel_rfl) (by kernel_rfl) (by kernel_rfl) (fun c a w h => hQ0 c a _ _ w h) (Or.inl ⟨by rfl, ?_⟩) hHeld ?_
     rotate_left
     · intro w0 hSw; (try dsimp only at hSw); obtain ⟨r1, r2⟩ := hSw; obtain ⟨g0, g1, g2, g3, g4, g5, g6, g7, g8, g9, g10, g11, g12⟩ := tcsR r1; obtain ⟨f0, f1, f2, f3, f4, f5, f6⟩ := zrR r2; go_simp <;> with_reducible rfl
     try simp only [Act.put, List.getElem_toArray, List.getElem_cons_zero, List.getElem_cons_succ, List.setIfInBounds_toArray, List.set_cons_zero, List.set_cons_succ]
     refine wpAnyH_take (i := 11) (v := ?_) rfl (by kernel_rfl) (by kernel_rfl) (by kernel_rfl) (fun c a w h => hQ0 c a _ _ w h) (Or.inl ⟨by rfl, ?_⟩) hHeld ?_
     rotate_left
     · intro w0 hSw; (try dsimp only at hSw); obtain ⟨r1, r2⟩ := hSw; obtain ⟨g0, g1, g2, g3, g4, g5, g6, g7, g8, g9, g10, g11, g12⟩ := tcsR r1; obtain ⟨f0, f1, f2, f3, f4, f5, f6⟩ := zrR r2; go_simp <;> with_reducible rfl
     try simp only [Act.put, List.getElem_toArray, List.getElem_cons_zero, List.getElem_cons_succ, List.setIfInBounds_toArray, List.set_cons_zero, List.set_cons_succ]
     refine wpAnyH_take (i := 12) (v := ?_) rfl (by kernel_rfl) (by kernel_rfl) (by kernel_rfl) (fun c a w h => hQ0 c a _ _ w h) (Or.inl ⟨by rfl, ?_⟩) hHeld ?_
     rotate_left
     · intro w0 hSw; (try dsimp only at hSw); obtain ⟨r1, r2⟩ := hSw; obtain ⟨g0, g1, g2, g3, g4, g5, g6, g7, g8, g9, g10, g11, g12⟩ := tcsR r1; obtain ⟨f0, f1, f2, f3, f4, f5, f6⟩ := zrR r2; go_simp <;> with_reducible rfl
     try simp only [Act.put, List.getElem_toArray, List.getElem_cons_zero, List.getElem_cons_succ, List.setIfInBounds_toArray, List.set_cons_zero, List.set_cons_succ]
     refine wpAnyH_take (i := 13) (v := ?_) rfl (by kernel_rfl) (by kernel_rfl) (by kernel_rfl) (fun c a w h => hQ0 c a _ _ w h) (Or.inl ⟨by rfl, ?_⟩) hHeld ?_
     rotate_left
     · intro w0 hSw; (try dsimp only at hSw); obtain ⟨r1, r2⟩ := hSw; obtain ⟨g0, g1, g2, g3, g4, g5, g6, g7, g8, g9, g10, g11, g12⟩ := tcsR r1; obtain ⟨f0, f1, f2, f3, f4, f5, f6⟩ := zrR r2; go_simp <;> with_reducible rfl
     try simp only [Act.put, List.getElem_toArray, List.getElem_cons_zero, List.getElem_cons_succ, List.setIfInBounds_toArray, List.set_cons_zero, List.set_cons_succ]
     refine wpAnyH_take (i := 14) (v := ?_) rfl (by kernel_rfl) (by kernel_rfl) (by kernel_rfl) (fun c a w h => hQ0 c a _ _ w h) (Or.inl ⟨by rfl, ?_⟩) hHeld ?_
     rotate_left
     · intro w0 hSw; (try dsimp only at hSw); obtain ⟨r1, r2⟩ := hSw; obtain ⟨g0, g1, g2, g3, g4, g5, g6, g7, g8, g9, g10, g11, g12⟩ := tcsR r1; obtain ⟨f0, f1, f2, f3, f4, f5, f6⟩ := zrR r2; go_simp <;> with_reducible rfl
     try simp only [Act.put, List.getElem_toArray, List.getElem_cons_zero, List.getElem_cons_succ, List.setIfInBounds_toArray, List.set_cons_zero, List.set_cons_succ]
     refine wpAnyH_take (i := 15) (v := ?_) rfl (by kernel_rfl) (by kernel_rfl) (by kernel_rfl) (fun c a w h => hQ0 c a _ _ w h) (Or.inl ⟨by rfl, ?_⟩) hHeld ?_
     rotate_left
     · intro w0 hSw; (try dsimp only at hSw); obtain ⟨r1, r2⟩ := hSw; obtain ⟨g0, g1, g2, g3, g4, g5, g6, g7, g8, g9, g10, g11, g12⟩ := tcsR r1; obtain ⟨f0, f1, f2, f3, f4, f5, f6⟩ := zrR r2; go_simp <;> with_reducible rfl
     try simp only [Act.put, List.getElem_toArray, List.getElem_cons_zero, List.getElem_cons_succ, List.setIfInBounds_toArray, List.set_cons_zero, List.set_cons_succ]
     refine wpAnyH_take (i := 16) (v := ?_) rfl (by kernel_rfl) (by kernel_rfl) (by kernel_rfl) (fun c a w h => hQ0 c a _ _ w h) (Or.inl ⟨by rfl, ?_⟩) hHeld ?_
     rotate_left
     · intro w0 hSw; (try dsimp only at hSw); obtain ⟨r1, r2⟩ := hSw; obtain ⟨g0, g1, g2, g3, g4, g5, g6, g7, g8, g9, g10, g11, g12⟩ := tcsR r1; obtain ⟨f0, f1, f2, f3, f4, f5, f6⟩ := zrR r2; go_simp <;> with_reducible rfl
     try simp only [Act.put, List.getElem_toArray, List.getElem_cons_zero, List.getElem_cons_succ, List.setIfInBounds_toArray, List.set_cons_zero, List.set_cons_succ]
     refine wpAnyH_take (i := 17) (v := ?_) rfl (by kernel_rfl) (by kernel_rfl) (by kernel_rfl) (fun c a w h => hQ0 c a _ _ w h) (Or.inl ⟨by rfl, ?_⟩) hHeld ?_
     rotate_left
     · intro w0 hSw; (try dsimp only at hSw); obtain ⟨r1, r2⟩ := hSw; obtain ⟨g0, g1, g2, g3, g4, g5, g6, g7, g8, g9, g10, g11, g12⟩ := tcsR r1; obtain ⟨f0, f1, f2, f3, f4, f5, f6⟩ := zrR r2; go_simp <;> with_reducible rfl
     try simp only [Act.put, List.getElem_toArray, List.getElem_cons_zero, List.getElem_cons_succ, List.setIfInBounds_toArray, List.set_cons_zero, List.set_cons_succ]
     refine wpAnyH_take (i := 18) (v := ?_) rfl (by kernel_rfl) (by kernel_rfl) (by kernel_rfl) (fun c a w h => hQ0 c a _ _ w h) (Or.inl ⟨by rfl, ?_⟩) hHeld ?_
     rotate_left
     · intro w0 hSw; (try dsimp only at hSw); obtain ⟨r1, r2⟩ := hSw; obtain ⟨g0, g1, g2, g3, g4, g5, g6, g7, g8, g9, g10, g11, g12⟩ := tcsR r1; obtain ⟨f0, f1, f2, f3, f4, f5, f6⟩ := zrR r2; go_simp <;> with_reducible rfl
     try simp only [Act.put, List.getElem_toArray, List.getElem_cons_zero, List.getElem_cons_succ, List.setIfInBounds_toArray, List.set_cons_zero, List.set_cons_succ]
     refine wpAnyH_take (i := 19) (v := ?_) rfl (by kernel_rfl) (by kernel_rfl) (by kernel_rfl) (fun c a w h => hQ0 c a _ _ w h) (Or.inl ⟨by rfl, ?_⟩) hHeld ?_
     rotate_left
     · intro w0 hSw; (try dsimp only at hSw); obtain ⟨r1, r2⟩ := hSw; obtain ⟨g0, g1, g2, g3, g4, g5, g6, g7, g8, g9, g10, g11, g12⟩ := tcsR r1; obtain ⟨f0, f1, f2, f3, f4, f5, f6⟩ := zrR r2; go_simp <;> with_reducible rfl
     try simp only [Act.put, List.getElem_toArray, List.getElem_cons_zero, List.getElem_cons_succ, List.setIfInBounds_toArray, List.set_cons_zero, List.set_cons_succ]
     refine wpAnyH_take (i := 20) (v := ?_) rfl (by kernel_rfl) (by kernel_rfl) (by kernel_rfl) (fun c a w h => hQ0 c a _ _ w h) (Or.inl ⟨by rfl, ?_⟩) hHeld ?_
     rotate_left
     · intro w0 hSw; (try dsimp only at hSw); obtain ⟨r1, r2⟩ := hSw; obtain ⟨g0, g1, g2, g3, g4, g5, g6, g7, g8, g9, g10, g11, g12⟩ := tcsR r1; obtain ⟨f0, f1, f2, f3, f4, f5, f6⟩ := zrR r2; go_simp <;> with_reducible rfl
     try simp only [Act.put, List.getElem_toArray, List.getElem_cons_zero, List.getElem_cons_succ, List.setIfInBounds_toArray, List.set_cons_zero, List.set_cons_succ]
     refine wpAnyH_take (i := 21) (v := ?_) rfl (by kernel_rfl) (by kernel_rfl) (by kernel_rfl) (fun c a w h => hQ0 c a _ _ w h) (Or.inl ⟨by rfl, ?_⟩) hHeld ?_
     rotate_left
     · intro w0 hSw; (try dsimp only at hSw); obtain ⟨r1, r2⟩ := hSw; obtain ⟨g0, g1, g2, g3, g4, g5, g6, g7, g8, g9, g10, g11, g12⟩ := tcsR r1; obtain ⟨f0, f1, f2, f3, f4, f5, f6⟩ := zrR r2; go_simp <;> with_reducible rfl
     try simp only [Act.put, List.getElem_toArray, List.getElem_cons_zero, List.getElem_cons_succ, List.setIfInBounds_toArray, List.set_cons_zero, List.set_cons_succ]
     refine wpAnyH_take (i := 22) (v := ?_) rfl (by kernel_rfl) (by kernel_rfl) (by kernel_rfl) (fun c a w h => hQ0 c a _ _ w h) (Or.inl ⟨by rfl, ?_⟩) hHeld ?_
     rotate_left
     · intro w0 hSw; (try dsimp only at hSw); obtain ⟨r1, r2⟩ := hSw; obtain ⟨g0, g1, g2, g3, g4, g5, g6, g7, g8, g9, g10, g11, g12⟩ := tcsR r1; obtain ⟨f0, f1, f2, f3, f4, f5, f6⟩ := zrR r2; go_simp <;> with_reducible rfl
     try simp only [Act.put, List.getElem_toArray, List.getElem_cons_zero, List.getElem_cons_succ, List.setIfInBounds_toArray, List.set_cons_zero, List.set_cons_succ]
     refine wpAnyH_take (i := 23) (v := ?_) rfl (by kernel_rfl) (by kernel_rfl) (by kernel_rfl) (fun c a w h => hQ0 c a _ _ w h) (Or.inl ⟨by rfl, ?_⟩) hHeld ?_
     rotate_left
     · intro w0 hSw; (try dsimp only at hSw); obtain ⟨r1, r2⟩ := hSw; obtain ⟨g0, g1, g2, g3, g4, g5, g6, g7, g8, g9, g10, g11, g12⟩ := tcsR r1; obtain ⟨f0, f1, f2, f3, f4, f5, f6⟩ := zrR r2; go_simp <;> with_reducible rfl
     try simp only [Act.put, List.getElem_toArray, List.getElem_cons_zero, List.getElem_cons_succ, List.setIfInBounds_toArray, List.set_cons_zero, List.set_cons_succ]
     refine wpAnyH_take (i := 24) (v := ?_) rfl (by kernel_rfl) (by kernel_rfl) (by kernel_rfl) (fun c a w h => hQ0 c a _ _ w h) (Or.inl ⟨by rfl, ?_⟩) hHeld ?_
     rotate_left
     · intro w0 hSw; (try dsimp only at hSw); obtain ⟨r1, r2⟩ := hSw; obtain ⟨g0, g1, g2, g3, g4, g5, g6, g7, g8, g9, g10, g11, g12⟩ := tcsR r1; obtain ⟨f0, f1, f2, f3, f4, f5, f6⟩ := zrR r2; go_simp <;> with_reducible rfl
     try simp only [Act.put, List.getElem_toArray, List.getElem_cons_zero, List.getElem_cons_succ, List.setIfInBounds_toArray, List.set_cons_zero, List.set_cons_succ]
     refine wpAnyH_take (i := 25) (v := ?_) rfl (by kernel_rfl) (by kernel_rfl) (by kernel_rfl) (fun c a w h => hQ0 c a _ _ w h) (Or.inl ⟨by rfl, ?_⟩) hHeld ?_
     rotate_left
     · intro w0 hSw; (try dsimp only at hSw); obtain ⟨r1, r2⟩ := hSw; obtain ⟨g0, g1, g2, g3, g4, g5, g6, g7, g8, g9, g10, g11, g12⟩ := tcsR r1; obtain ⟨f0, f1, f2, f3, f4, f5, f6⟩ := zrR r2; go_simp <;> with_reducible rfl
     try simp only [Act.put, List.getElem_toArray, List.getElem_cons_zero, List.getElem_cons_succ, List.setIfInBounds_toArray, List.set_cons_zero, List.set_cons_succ]
     refine wpAnyH_take (i := 26) (v := ?_) rfl (by kernel_rfl) (by kernel_rfl) (by kernel_rfl) (fun c a w h => hQ0 c a _ _ w h) (Or.inl ⟨by rfl, ?_⟩) hHeld ?_
     rotate_left
     · intro w0 hSw; (try dsimp only at hSw); obtain ⟨r1, r2⟩ := hSw; obtain ⟨g0, g1, g2, g3, g4, g5, g6, g7, g8, g9, g10, g11, g12⟩ := tcsR r1; obtain ⟨f0, f1, f2, f3, f4, f5, f6⟩ := zrR r2; go_simp <;> with_reducible rfl
     try simp only [Act.put, List.getElem_toArray, List.getElem_cons_zero, List.getElem_cons_succ, List.setIfInBounds_toArray, List.set_cons_zero, List.set_cons_succ]
     refine wpAnyH_take (i := 27) (v := ?_) rfl (by kernel_rfl) (by kernel_rfl) (by kernel_rfl) (fun c a w h => hQ0 c a _ _ w h) (Or.inl ⟨by rfl, ?_⟩) hHeld ?_
     rotate_left
     · intro w0 hSw; (try dsimp only at hSw); obtain ⟨r1, r2⟩ := hSw; obtain ⟨g0, g1, g2, g3, g4, g5, g6, g7, g8, g9, g10, g11, g12⟩ := tcsR r1; obtain ⟨f0, f1, f2, f3, f4, f5, f6⟩ := zrR r2; go_simp <;> with_reducible rfl
     try simp only [Act.put, List.getElem_toArray, List.getElem_cons_zero, List.getElem_cons_succ, List.setIfInBounds_toArray, List.set_cons_zero, List.set_cons_succ]
     refine wpAnyH_take (i := 28) (v := ?_) rfl (by kernel_rfl) (by kernel_rfl) (by kernel_rfl) (fun c a w h => hQ0 c a _ _ w h) (Or.inl ⟨by rfl, ?_⟩) hHeld ?_
     rotate_left
     · intro w0 hSw; (try dsimp only at hSw); obtain ⟨r1, r2⟩ := hSw; obtain ⟨g0, g1, g2, g3, g4, g5, g6, g7, g8, g9, g10, g11, g12⟩ := tcsR r1; obtain ⟨f0, f1, f2, f3, f4, f5, f6⟩ := zrR r2; go_simp <;> with_reducible rfl
     try simp only [Act.put, List.getElem_toArray, List.getElem_cons_zero, List.getElem_cons_succ, List.setIfInBounds_toArray, List.set_cons_zero, List.set_cons_succ]
     refine wpAnyH_take (i := 29) (v := ?_) rfl (by kernel_rfl) (by kernel_rfl) (by kernel_rfl) (fun c a w h => hQ0 c a _ _ w h) (Or.inl ⟨by rfl, ?_⟩) hHeld ?_
     rotate_left
     · intro w0 hSw; (try dsimp only at hSw); obtain ⟨r1, r2⟩ := hSw; obtain ⟨g0, g1, g2, g3, g4, g5, g6, g7, g8, g9, g10, g11, g12⟩ := tcsR r1; obtain ⟨f0, f1, f2, f3, f4, f5, f6⟩ := zrR r2; go_simp <;> with_reducible rfl
     try simp only [Act.put, List.getElem_toArray, List.getElem_cons_zero, List.getElem_cons_succ, List.setIfInBounds_toArray, List.set_cons_zero, List.set_cons_succ]
     refine wpAnyH_take (i := 30) (v := ?_) rfl (by kernel_rfl) (by kernel_rfl) (by kernel_rfl) (fun c a w h => hQ0 c a _ _ w h) (Or.inl ⟨by rfl, ?_⟩) hHeld ?_
     rotate_left
     · intro w0 hSw; (try dsimp only at hSw); obtain ⟨r1, r2⟩ := hSw; obtain ⟨g0, g1, g2, g3, g4, g5, g6, g7, g8, g9, g10, g11, g12⟩ := tcsR r1; obtain ⟨f0, f1, f2, f3, f4, f5, f6⟩ := zrR r2; go_simp <;> with_reducible rfl
     try simp only [Act.put, List.getElem_toArray, List.getElem_cons_zero, List.getElem_cons_succ, List.setIfInBounds_toArray, List.set_cons_zero, List.set_cons_succ]
     refine wpAnyH_take (i := 31) (v := ?_) rfl (by kernel_rfl) (by kernel_rfl) (by kernel_rfl) (fun c a w h => hQ0 c a _ _ w h) (Or.inl ⟨by rfl, ?_⟩) hHeld ?_
     rotate_left
     · intro w0 hSw; (try dsimp only at hSw); obtain ⟨r1, r2⟩ := hSw; obtain ⟨g0, g1, g2, g3, g4, g5, g6, g7, g8, g9, g10, g11, g12⟩ := tcsR r1; obtain ⟨f0, f1, f2, f3, f4, f5, f6⟩ := zrR r2; go_simp <;> with_reducible rfl
     try simp only [Act.put, List.getElem_toArray, List.getElem_cons_zero, List.getElem_cons_succ, List.setIfInBounds_toArray, List.set_cons_zero, List.set_cons_succ]
     refine wpAnyH_take (i := 33) (v := ?_) rfl (by kernel_rfl) (by kernel_rfl) (by kernel_rfl) (fun c a w h => hQ0 c a _ _ w h) (Or.inl ⟨by rfl, ?_⟩) hHeld ?_
     rotate_left
     · intro w0 hSw; (try dsimp only at hSw); obtain ⟨r1, r2⟩ := hSw; obtain ⟨g0, g1, g2, g3, g4, g5, g6, g7, g8, g9, g10, g11, g12⟩ := tcsR r1; obtain ⟨f0, f1, f2, f3, f4, f5, f6⟩ := zrR r2; go_simp <;> with_reducible rfl
     try simp only [Act.put, List.getElem_toArray, List.getElem_cons_zero, List.getElem_cons_succ, List.setIfInBounds_toArray, List.set_cons_zero, List.set_cons_succ]
     refine wpAnyH_take (i := 34) (v := ?_) rfl (by kernel_rfl) (by kernel_rfl) (by kernel_rfl) (fun c a w h => hQ0 c a _ _ w h) (Or.inl ⟨by rfl, ?_⟩) hHeld ?_
     rotate_left
     · intro w0 hSw; (try dsimp only at hSw); obtain ⟨r1, r2⟩ := hSw; obtain ⟨g0, g1, g2, g3, g4, g5, g6, g7, g8, g9, g10, g11, g12⟩ := tcsR r1; obtain ⟨f0, f1, f2, f3, f4, f5, f6⟩ := zrR r2; go_simp <;> with_reducible rfl
     try simp only [Act.put, List.getElem_toArray, List.getElem_cons_zero, List.getElem_cons_succ, List.setIfInBounds_toArray, List.set_cons_zero, List.set_cons_succ]
     refine wpAnyH_take (i := 35) (v := ?_) rfl (by kernel_rfl) (by kernel_rfl) (by kernel_rfl) (fun c a w h => hQ0 c a _ _ w h) (Or.inl ⟨by rfl, ?_⟩) hHeld ?_
     rotate_left
     · intro w0 hSw; (try dsimp only at hSw); obtain ⟨r1, r2⟩ := hSw; obtain ⟨g0, g1, g2, g3, g4, g5, g6, g7, g8, g9, g10, g11, g12⟩ := tcsR r1; obtain ⟨f0, f1, f2, f3, f4, f5, f6⟩ := zrR r2; go_simp <;> with_reducible rfl
     try simp only [Act.put, List.getElem_toArray, List.getElem_cons_zero, List.getElem_cons_succ, List.setIfInBounds_toArray, List.set_cons_zero, List.set_cons_succ]
     refine wpAnyH_take (i := 36) (v := ?_) rfl (by kernel_rfl) (by kernel_rfl) (by kernel_rfl) (fun c a w h => hQ0 c a _ _ w h) (Or.inl ⟨by rfl, ?_⟩) hHeld ?_
     rotate_left
     · intro w0 hSw; (try dsimp only at hSw); obtain ⟨r1, r2⟩ := hSw; obtain ⟨g0, g1, g2, g3, g4, g5, g6, g7, g8, g9, g10, g11, g12⟩ := tcsR r1; obtain ⟨f0, f1, f2, f3, f4, f5, f6⟩ := zrR r2; go_simp <;> with_reducible rfl
     try simp only [Act.put, List.getElem_toArray, List.getElem_cons_zero, List.getElem_cons_succ, List.setIfInBounds_toArray, List.set_cons_zero, List.set_cons_succ]
     refine wpAnyH_ready (rs := [32]) (by kernel_rfl) (by simp) ?_
     refine AllReadyH.cons rfl (fun K0 hK0 => ?_) AllReadyH.nil
     rw [if_pos (by first | (simp [Region.wanted]; done) | rfl)]
     go_simp
     refine (nanosI q.raised _ hok.raised).mono ?_
     rintro e c0 ⟨rfl, bc0⟩
     have bc0' : Below wr.heap.size wr c0 := ⟨bc0.os, bc0.tape, bc0.output, bc0.size, bc0.block⟩
     refine hK0.out _ _ ⟨range_below HG3.out bc0', range_below HR3.out bc0'⟩ (fun hHeld => ?_)
     clear hK0 K0
     try simp only [Act.put, List.getElem_toArray, List.getElem_cons_zero, List.getElem_cons_succ, List.setIfInBounds_toArray, List.set_cons_zero, List.set_cons_succ]
     refine wpAnyH_take (i := 37) (v := ?_) rfl (by kernel_rfl) (by kernel_rfl) (by kernel_rfl) (fun c a w h => hQ0 c a _ _ w h) (Or.inl ⟨by rfl, ?_⟩) hHeld ?_
     rotate_left
     · intro w0 hSw; (try dsimp only at hSw); obtain ⟨r1, r2⟩ := hSw; obtain ⟨g0, g1, g2, g3, g4, g5, g6, g7, g8, g9, g10, g11, g12⟩ := tcsR r1; obtain ⟨f0, f1, f2, f3, f4, f5, f6⟩ := zrR r2; go_simp <;> with_reducible rfl
     try simp only [Act.put, List.getElem_toArray, List.getElem_cons_zero, List.getElem_cons_succ, List.setIfInBounds_toArray, List.set_cons_zero, List.set_cons_succ]
     refine wpAnyH_take (i := 38) (v := ?_) rfl (by kernel_rfl) (by kernel_rfl) (by kernel_rfl) (fun c a w h => hQ0 c a _ _ w h) (Or.inl ⟨by rfl, ?_⟩) hHeld ?_
     rotate_left
     · intro w0 hSw; (try dsimp only at hSw); obtain ⟨r1, r2⟩ := hSw; obtain ⟨g0, g1, g2, g3, g4, g5, g6, g7, g8, g9, g10, g11, g12⟩ := tcsR r1; obtain ⟨f0, f1, f2, f3, f4, f5, f6⟩ := zrR r2; go_simp <;> with_reducible rfl
     try simp only [Act.put, List.getElem_toArray, List.getElem_cons_zero, List.getElem_cons_succ, List.setIfInBounds_toArray, List.set_cons_zero, List.set_cons_succ]
     refine wpAnyH_done (by kernel_rfl) ?_ _
     go_wp2_with fail
     first | exact Below.step HB3.out bc0' | exact HEND.out _ _ _ _ _ _ _ _ _ _ _ _ _ _ _ _ _ _ _ _ _ _ _ _ _ _ _ _ _ _ _ _ _ _ _ _ _ _ _ _ _ _ _ _ _ _ _ _ _ _ _ _ _ _ _ _ _ _ _ _ _ _ _ _ _ _ _ _ _ _ _ _ _ _ _ _ _ _ _ _ _ _ _ _ _ _ _ _ _ _ _ _ _ _ _ _ _ _ _ _ _ (Below.step HB3.out bc0')

end
end Go.Proofs.Qxb6605676a.Kz
