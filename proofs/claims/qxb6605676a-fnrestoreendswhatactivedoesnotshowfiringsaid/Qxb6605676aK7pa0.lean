import Derived.Test.Qxb6605676aKz31
namespace Go.Proofs.Qxb6605676a.Kz
set_option linter.unusedVariables false
set_option linter.unusedSimpArgs false
open Go.RowKit Go.Proofs.Qxb6605676a.Mp Go.Proofs.Qxb6605676a.Tm Go.Proofs.Qxb6605676a.En

section
variable {rz tb o : Nat} {R : List RuleD} {K : List ZK} {ka : Option Addr} {w wr : World}

set_option maxHeartbeats 6400000 in
set_option maxRecDepth 100000 in
theorem w30_pa0 (P0 : Act → World → Prop) (Q0 : Exit → Act → World → Prop) (hQ0 : ∀ c a d v w, Q0 (.panic c) (Act.put a d v) w → Q0 (.panic c) a w) (q : ZR) (j n0 nT kc tc : Nat) (hjn : j < nT) (hn : nT ≤ 4096) (hn0 : n0 ≤ j) (hkl : K.length ≤ 4096) (hRl : R.length ≤ 1000) (hRs : ∀ r ∈ R, r.sevs.length ≤ 1000) (hok : ZR.Ok q) (p : Nat) (hp : plc q.rule R 0 (-1) = p) (ha : lastTo (alarmAt R K p 0 q.sensor) K.length < 0) (g nE ec : Nat) (hnE : n0 < nE) (hnE2 : nE ≤ 4096) (ets : Int) (es em : ByteArray) (ev : Nat) (hIe : I64 ets) (hG : Hid (wr.rangeAt g (n0 * 13) (tcs q [.int .u64 (ets % 1000000000), .int .i64 (ets / 1000000000), .pointer none, .string es, .string em, .float .f64 ev]))) (hrd : Hid (lastTo (rdAt K q.rule q.sensor) K.length < 0)) (e1 : ets = q.ts) (e2 : es = q.sensor) (e3 : em = q.metric) (e4 : ev = q.val) 
    (hR : Hid (RulesAt wr rz R)) (hK : Hid (KArg wr ka K)) (hr : Hid (wr.rangeAt tb (o + j * 7) (zrCells q))) (hb : Hid (Below w.heap.size w wr)) (u8 u11 u12 u13 u14 u15 u16 u17 u18 u19 u20 u21 u22 u23 u24 u25 u26 u27 u28 u29 u30 u31 u32 u33 u34 u35 u36 u37 u38 u39 u40 u41 u42 u43 u44 u45 u46 u47 u48 u49 u50 u51 u52 u53 u54 u55 u56 u57 u58 u59 u60 u61 u62 u63 u64 u65 u66 u67 u68 u69 u70 u71 u72 u73 u74 u75 u76 u77 u78 u79 u80 u81 u82 u83 u84 u85 u86 u87 u88 u89 u90 u91 u92 u93 u94 u95 u96 u97 u98 u99 u100 u101 u102 u103 u104 u105 u106 u107 u108 u109 u110 u111 u112 u113 u114 u115 u116 u117 u118 u119 u120 u121 u122 u123 u124 u125 u126 u127 u128 u129 u130 u131 u132 u133 u134 u135 u136 u137 u138 u139 u140 u141 u142 u143 u144 u145 u146 u147 u148 u149 u150 u151 u152 u153 u154 u155 u156 u157 u158 u159 u160 u161 u162 u163 u164 u165 u166 u167 u168 u169 u170 u171 u172 u173 u174 u175 u176 u177 u178 u179 u180 u181 u182 u183 u184 u185 u186 u187 u188 u189 u190 u191 u192 u193 u194 u195 u196 u197 u198 u199 u200 u201 u202 u203 u204 u205 u206 u207 u208 u209 u210 u211 u212 u213 u214 c4 c5 c6 c7 c215 c216 c217 c218 : Value)
    (hend : ∀ (v8 v11 v12 v13 v14 v15 v16 v17 v18 v19 v20 v21 v22 v23 v24 v25 v26 v27 v28 v29 v30 v31 v32 v33 v34 v35 v36 v37 v38 v39 v40 v41 v42 v43 v44 v45 v46 v47 v48 v49 v50 v51 v52 v53 v54 v55 v56 v57 v58 v59 v60 v61 v62 v63 v64 v65 v66 v67 v68 v69 v70 v71 v72 v73 v74 v75 v76 v77 v78 v79 v80 v81 v82 v83 v84 v85 v86 v87 v88 v89 v90 v91 v92 v93 v94 v95 v96 v97 v98 v99 v100 v101 v102 v103 v104 v105 v106 v107 v108 v109 v110 v111 v112 v113 v114 v115 v116 v117 v118 v119 v120 v121 v122 v123 v124 v125 v126 v127 v128 v129 v130 v131 v132 v133 v134 v135 v136 v137 v138 v139 v140 v141 v142 v143 v144 v145 v146 v147 v148 v149 v150 v151 v152 v153 v154 v155 v156 v157 v158 v159 v160 v161 v162 v163 v164 v165 v166 v167 v168 v169 v170 v171 v172 v173 v174 v175 v176 v177 v178 v179 v180 v181 v182 v183 v184 v185 v186 v187 v188 v189 v190 v191 v192 v193 v194 v195 v196 v197 v198 v199 v200 v201 v202 v203 v204 v205 v206 v207 v208 v209 v210 v211 v212 v213 v214 : Value) (w' : World), Below w.heap.size w w' → P0 ⟨#[.slice (some ⟨rz, 0, none⟩) R.length R.length, .slice ka K.length kc, .slice (some ⟨tb, o, none⟩) nT tc, .slice (some ⟨g, 0, none⟩) nE ec, c4, c5, c6, c7, v8, .int .i64 ((n0 + 1 : Nat) : Int), .int .i64 ((j + 1 : Nat) : Int), v11, v12, v13, v14, v15, v16, v17, v18, v19, v20, v21, v22, v23, v24, v25, v26, v27, v28, v29, v30, v31, v32, v33, v34, v35, v36, v37, v38, v39, v40, v41, v42, v43, v44, v45, v46, v47, v48, v49, v50, v51, v52, v53, v54, v55, v56, v57, v58, v59, v60, v61, v62, v63, v64, v65, v66, v67, v68, v69, v70, v71, v72, v73, v74, v75, v76, v77, v78, v79, v80, v81, v82, v83, v84, v85, v86, v87, v88, v89, v90, v91, v92, v93, v94, v95, v96, v97, v98, v99, v100, v101, v102, v103, v104, v105, v106, v107, v108, v109, v110, v111, v112, v113, v114, v115, v116, v117, v118, v119, v120, v121, v122, v123, v124, v125, v126, v127, v128, v129, v130, v131, v132, v133, v134, v135, v136, v137, v138, v139, v140, v141, v142, v143, v144, v145, v146, v147, v148, v149, v150, v151, v152, v153, v154, v155, v156, v157, v158, v159, v160, v161, v162, v163, v164, v165, v166, v167, v168, v169, v170, v171, v172, v173, v174, v175, v176, v177, v178, v179, v180, v181, v182, v183, v184, v185, v186, v187, v188, v189, v190, v191, v192, v193, v194, v195, v196, v197, v198, v199, v200, v201, v202, v203, v204, v205, v206, v207, v208, v209, v210, v211, v212, v213, v214, c215, c216, c217, c218], []⟩ w') :
    Code.wp Try.prog body30 (Exit.then P0 Q0) ⟨#[.slice (some ⟨rz, 0, none⟩) R.length R.length, .slice ka K.length kc, .slice (some ⟨tb, o, none⟩) nT tc, .slice (some ⟨g, 0, none⟩) nE ec, c4, c5, c6, c7, u8, .int .i64 n0, .int .i64 j, u11, u12, u13, u14, u15, u16, u17, u18, u19, u20, u21, u22, u23, u24, u25, u26, u27, u28, u29, u30, u31, u32, u33, u34, u35, u36, u37, u38, u39, u40, u41, u42, u43, u44, u45, u46, u47, u48, u49, u50, u51, u52, u53, u54, u55, u56, u57, u58, u59, u60, u61, u62, u63, u64, u65, u66, u67, u68, u69, u70, u71, u72, u73, u74, u75, u76, u77, u78, u79, u80, u81, u82, u83, u84, u85, u86, u87, u88, u89, u90, u91, u92, u93, u94, u95, u96, u97, u98, u99, u100, u101, u102, u103, u104, u105, u106, u107, u108, u109, u110, u111, u112, u113, u114, u115, u116, u117, u118, u119, u120, u121, u122, u123, u124, u125, u126, u127, u128, u129, u130, u131, u132, u133, u134, u135, u136, u137, u138, u139, u140, u141, u142, u143, u144, u145, u146, u147, u148, u149, u150, u151, u152, u153, u154, u155, u156, u157, u158, u159, u160, u161, u162, u163, u164, u165, u166, u167, u168, u169, u170, u171, u172, u173, u174, u175, u176, u177, u178, u179, u180, u181, u182, u183, u184, u185, u186, u187, u188, u189, u190, u191, u192, u193, u194, u195, u196, u197, u198, u199, u200, u201, u202, u203, u204, u205, u206, u207, u208, u209, u210, u211, u212, u213, u214, c215, c216, c217, c218], []⟩ wr := by
  conv => arg 2; whnf
  obtain ⟨f0, f1, f2, f3, f4, f5, f6⟩ := zrR hr.out
  have HP : Hid (Calls Try.prog 69 #[.slice (some ⟨rz, 0, none⟩) R.length R.length, .string q.rule] wr fun e w' => e = .returned (.int .i64 (plc q.rule R 0 (-1))) ∧ wr = w') := zzplace_any R q.rule rz wr hR.out hRl
  have HA : Hid (Calls Try.prog 70 #[.slice (some ⟨rz, 0, none⟩) R.length R.length, .slice ka K.length kc, .int .i64 p, .int .i64 0, .string q.sensor] wr fun e w' => e = .returned (.int .i64 (lastTo (alarmAt R K p 0 q.sensor) K.length)) ∧ Below wr.heap.size wr w') := by
    have := zzlastAlarm_any R K p 0 q.sensor rz ka kc wr hR.out hRl hRs hK.out hkl
    exact this
  rw [hp] at HP
  generalize lastTo (alarmAt R K p 0 q.sensor) K.length = xa at *
  clear hRs
  have HEND : Hid _ := hend
  clear hend
  go_wp2_with (first
    | (go_at_call 69; refine Calls.mono HP.out ?_; rintro e _ ⟨rfl, rfl⟩)
    | (go_at_call 70; refine Calls.mono HA.out ?_; rintro e w5 ⟨rfl, b5⟩; obtain ⟨f0, f1, f2, f3, f4, f5, f6⟩ := zrR (range_below hr.out b5)))
  obtain ⟨V, rfl⟩ : ∃ V, V = w5 := ⟨_, rfl⟩
  have HRV : Hid (V.rangeAt tb (o + j * 7) (zrCells q)) := range_below hr.out b5
  have HKV : Hid (KArg V _ K) := hK.out.below b5
  have HGV : Hid (V.rangeAt g (n0 * 13) (tcs q [.int .u64 (ets % 1000000000), .int .i64 (ets / 1000000000), .pointer none, .string es, .string em, .float .f64 ev])) := range_below hG.out b5
  have HBV : Hid (Below w.heap.size w V) := Below.step hb.out b5
  clear b5
  clear HP hR hK hr hG hb f0 f1 f2 f3 f4 f5 f6 HA  
  go_loopw [14, 15, 16, 17, 18] (fun a b c d x wr2 => ∃ k : Nat, k ≤ K.length ∧ x = .int .i64 ((k : Int) - 1) ∧ a = .int .i64 q.ts ∧ b = .string q.sensor ∧ c = .string q.metric ∧ d = .float .f64 q.val ∧ Below V.heap.size V wr2) (fun _ _ _ _ x _ => (intOf x + 1).toNat)
  case atStart => exact ⟨K.length, Nat.le_refl _, by go_num, rfl, rfl, rfl, rfl, Below.refl _ _⟩
  case round =>
    obtain ⟨k, hk, rfl, rfl, rfl, rfl, rfl, hb2⟩ := hrel
    cases k with
    | zero =>
      have HR3 : Hid (wr.rangeAt tb (o + j * 7) (zrCells q)) := range_below HRV.out hb2
      have HG3 : Hid (wr.rangeAt g (n0 * 13) (tcs q [.int .u64 (ets % 1000000000), .int .i64 (ets / 1000000000), .pointer none, .string es, .string em, .float .f64 ev])) := range_below HGV.out hb2
      have HB3 : Hid (Below w.heap.size w wr) := Below.step HBV.out hb2
      obtain ⟨f0, f1, f2, f3, f4, f5, f6⟩ := zrR HR3.out
      obtain ⟨g0, g1, g2, g3, g4, g5, g6, g7, g8, g9, g10, g11, g12⟩ := tcsR HG3.out
      clear HRV HGV HBV HKV hb2
      subst e1 e2 e3 e4
      go_wp2_with fail
      go_quiet (fail)
      go_wp2_with fail
      generalize hWQ : World.drewN _ _ = WQ
      replace HG3 : Hid (WQ.rangeAt g (n0 * 13) (tcs q [.int .u64 (q.ts % 1000000000), .int .i64 (q.ts / 1000000000), .pointer none, .string q.sensor, .string q.metric, .float .f64 q.val])) := by rw [← hWQ]; exact HG3.out
      replace HR3 : Hid (WQ.rangeAt tb (o + j * 7) (zrCells q)) := by rw [← hWQ]; exact HR3.out
      replace HB3 : Hid (Below w.heap.size w WQ) := by rw [← hWQ]; exact below_drewN HB3.out _
      clear hWQ
      clear g0 g1 g2 g3 g4 g5 g6 g7 g8 g9 g10 g11 g12 f0 f1 f2 f3 f4 f5 f6
      refine wp_region_held_drew (S := (fun W => W.rangeAt g (n0 * 13) (tcs q [.int .u64 (q.ts % 1000000000), .int .i64 (q.ts / 1000000000), .pointer none, .string q.sensor, .string q.metric, .float .f64 q.val]) ∧ W.rangeAt tb (o + j * 7) (zrCells q))) (by kernel_rfl) ⟨HG3.out, HR3.out⟩ (fun hHeld => ?_)
      refine wpAnyH_take (i := 0) (v := ?_) rfl (by kernel_rfl) (by kernel_rfl) (by kernel_rfl) (fun c a w h => hQ0 c a _ _ w h) (Or.inl ⟨by rfl, ?_⟩) hHeld ?_
      rotate_left
      · intro w0 hSw; (try dsimp only at hSw); obtain ⟨r1, r2⟩ := hSw; obtain ⟨g0, g1, g2, g3, g4, g5, g6, g7, g8, g9, g10, g11, g12⟩ := tcsR r1; obtain ⟨f0, f1, f2, f3, f4, f5, f6⟩ := zrR r2; go_simp <;> with_reducible rfl
      try simp only [Act.put, List.getElem_toArray, List.getElem_cons_zero, List.getElem_cons_succ, List.setIfInBounds_toArray, List.set_cons_zero, List.set_cons_succ]
      refine wpAnyH_take (i := 1) (v := ?_) rfl (by kernel_rfl) (by kernel_rfl) (by kernel_rfl) (fun c a w h => hQ0 c a _ _ w h) (Or.inl ⟨by rfl, ?_⟩) hHeld ?_
      rotate_left
      · intro w0 hSw; (try dsimp only at hSw); obtain ⟨r1, r2⟩ := hSw; obtain ⟨g0, g1, g2, g3, g4, g5, g6, g7, g8, g9, g10, g11, g12⟩ := tcsR r1; obtain ⟨f0, f1, f2, f3, f4, f5, f6⟩ := zrR r2; go_simp <;> with_reducible rfl
      try simp only [Act.put, List.getElem_toArray, List.getElem_cons_zero, List.getElem_cons_succ, List.setIfInBounds_toArray, List.set_cons_zero, List.set_cons_succ]
      refine wpAnyH_take (i := 2) (v := ?_) rfl (by kernel_rfl) (by kernel_rfl) (by kernel_rfl) (fun c a w h => hQ0 c a _ _ w h) (Or.inl ⟨by rfl, ?_⟩) hHeld ?_
      rotate_left
      · intro w0 hSw; (try dsimp only at hSw); obtain ⟨r1, r2⟩ := hSw; obtain ⟨g0, g1, g2, g3, g4, g5, g6, g7, g8, g9, g10, g11, g12⟩ := tcsR r1; obtain ⟨f0, f1, f2, f3, f4, f5, f6⟩ := zrR r2; go_simp <;> with_reducible rfl
      try simp only [Act.put, List.getElem_toArray, List.getElem_cons_zero, List.getElem_cons_succ, List.setIfInBounds_toArray, List.set_cons_zero, List.set_cons_succ]
      refine wpAnyH_take (i := 3) (v := ?_) rfl (by kernel_rfl) (by kernel_rfl) (by kernel_rfl) (fun c a w h => hQ0 c a _ _ w h) (Or.inl ⟨by rfl, ?_⟩) hHeld ?_
      rotate_left
      · intro w0 hSw; (try dsimp only at hSw); obtain ⟨r1, r2⟩ := hSw; obtain ⟨g0, g1, g2, g3, g4, g5, g6, g7, g8, g9, g10, g11, g12⟩ := tcsR r1; obtain ⟨f0, f1, f2, f3, f4, f5, f6⟩ := zrR r2; go_simp <;> with_reducible rfl
      try simp only [Act.put, List.getElem_toArray, List.getElem_cons_zero, List.getElem_cons_succ, List.setIfInBounds_toArray, List.set_cons_zero, List.set_cons_succ]
      refine wpAnyH_take (i := 5) (v := ?_) rfl (by kernel_rfl) (by kernel_rfl) (by kernel_rfl) (fun c a w h => hQ0 c a _ _ w h) (Or.inl ⟨by rfl, ?_⟩) hHeld ?_
      rotate_left
      · intro w0 hSw; (try dsimp only at hSw); obtain ⟨r1, r2⟩ := hSw; obtain ⟨g0, g1, g2, g3, g4, g5, g6, g7, g8, g9, g10, g11, g12⟩ := tcsR r1; obtain ⟨f0, f1, f2, f3, f4, f5, f6⟩ := zrR r2; go_simp <;> with_reducible rfl
      try simp only [Act.put, List.getElem_toArray, List.getElem_cons_zero, List.getElem_cons_succ, List.setIfInBounds_toArray, List.set_cons_zero, List.set_cons_succ]
      refine wpAnyH_take (i := 6) (v := ?_) rfl (by kernel_rfl) (by kernel_rfl) (by kernel_rfl) (fun c a w h => hQ0 c a _ _ w h) (Or.inl ⟨by rfl, ?_⟩) hHeld ?_
      rotate_left
      · intro w0 hSw; (try dsimp only at hSw); obtain ⟨r1, r2⟩ := hSw; obtain ⟨g0, g1, g2, g3, g4, g5, g6, g7, g8, g9, g10, g11, g12⟩ := tcsR r1; obtain ⟨f0, f1, f2, f3, f4, f5, f6⟩ := zrR r2; go_simp <;> with_reducible rfl
      try simp only [Act.put, List.getElem_toArray, List.getElem_cons_zero, List.getElem_cons_succ, List.setIfInBounds_toArray, List.set_cons_zero, List.set_cons_succ]
      refine wpAnyH_take (i := 7) (v := ?_) rfl (by kernel_rfl) (by kernel_rfl) (by kernel_rfl) (fun c a w h => hQ0 c a _ _ w h) (Or.inl ⟨by rfl, ?_⟩) hHeld ?_
      rotate_left
      · intro w0 hSw; (try dsimp only at hSw); obtain ⟨r1, r2⟩ := hSw; obtain ⟨g0, g1, g2, g3, g4, g5, g6, g7, g8, g9, g10, g11, g12⟩ := tcsR r1; obtain ⟨f0, f1, f2, f3, f4, f5, f6⟩ := zrR r2; go_simp <;> with_reducible rfl
      try simp only [Act.put, List.getElem_toArray, List.getElem_cons_zero, List.getElem_cons_succ, List.setIfInBounds_toArray, List.set_cons_zero, List.set_cons_succ]
      refine wpAnyH_take (i := 8) (v := ?_) rfl (by kernel_rfl) (by kernel_rfl) (by kernel_rfl) (fun c a w h => hQ0 c a _ _ w h) (Or.inl ⟨by rfl, ?_⟩) hHeld ?_
      rotate_left
      · intro w0 hSw; (try dsimp only at hSw); obtain ⟨r1, r2⟩ := hSw; obtain ⟨g0, g1, g2, g3, g4, g5, g6, g7, g8, g9, g10, g11, g12⟩ := tcsR r1; obtain ⟨f0, f1, f2, f3, f4, f5, f6⟩ := zrR r2; go_simp <;> with_reducible rfl
      try simp only [Act.put, List.getElem_toArray, List.getElem_cons_zero, List.getElem_cons_succ, List.setIfInBounds_toArray, List.set_cons_zero, List.set_cons_succ]
      refine wpAnyH_ready (rs := [4]) (by kernel_rfl) (by simp) ?_
      refine AllReadyH.cons rfl (fun K0 hK0 => ?_) AllReadyH.nil
      rw [if_pos (by first | (simp [Region.wanted]; done) | rfl)]
      go_simp
      refine (nanosI q.raised _ hok.raised).mono ?_
      rintro e c0 ⟨rfl, bc0⟩
      have bc0' : Below WQ.heap.size WQ c0 := ⟨bc0.os, bc0.tape, bc0.output, bc0.size, bc0.block⟩
      refine hK0.out _ _ ⟨range_below HG3.out bc0', range_below HR3.out bc0'⟩ (fun hHeld => ?_)
      clear hK0 K0
      try simp only [Act.put, List.getElem_toArray, List.getElem_cons_zero, List.getElem_cons_succ, List.setIfInBounds_toArray, List.set_cons_zero, List.set_cons_succ]
      refine wpAnyH_take (i := 9) (v := ?_) rfl (by kernel_rfl) (by kernel_rfl) (by kernel_rfl) (fun c a w h => hQ0 c a _ _ w h) (Or.inl ⟨by rfl, ?_⟩) hHeld ?_
      rotate_left
      · intro w0 hSw; (try dsimp only at hSw); obtain ⟨r1, r2⟩ := hSw; obtain ⟨g0, g1, g2, g3, g4, g5, g6, g7, g8, g9, g10, g11, g12⟩ := tcsR r1; obtain ⟨f0, f1, f2, f3, f4, f5, f6⟩ := zrR r2; go_simp <;> with_reducible rfl
      try simp only [Act.put, List.getElem_toArray, List.getElem_cons_zero, List.getElem_cons_succ, List.setIfInBounds_toArray, List.set_cons_zero, List.set_cons_succ]
      refine wpAnyH_take (i := 10) (v := ?_) rfl (by kernel_rfl) (by kernel_rfl) (by kernel_rfl) (fun c a w h => hQ0 c a _ _ w h) (Or.inl ⟨by rfl, ?_⟩) hHeld ?_
      rotate_left
      · intro w0 hSw; (try dsimp only at hSw); obtain ⟨r1, r2⟩ := hSw; obtain ⟨g0, g1, g2, g3, g4, g5, g6, g7, g8, g9, g10, g11, g12⟩ := tcsR r1; obtain ⟨f0, f1, f2, f3, f4, f5, f6⟩ := zrR r2; go_simp <;> with_reducible rfl
      try simp only [Act.put, List.getElem_toArray, List.getElem_cons_zero, List.getElem_cons_succ, List.setIfInBounds_toArray, List.set_cons_zero, List.set_cons_succ]
      refine wpAnyH_take (i := 11) (v := ?_) rfl (by kernel_rfl) (by kernel_rfl) (by kernel_rfl) (fun c a w h => hQ0 c a _ _ w h) (Or.inl ⟨by rfl, ?_⟩) hHeld ?_
      rotate_left
      · intro w0 hSw; (try dsimp only at hSw); obtain ⟨r1, r2⟩ := hSw; obtain ⟨g0, g1, g2, g3, g4, g5, g6, g7, g8, g9, g10, g11, g12⟩ := tcsR r1; obtain ⟨f0, f1, f2, f3, f4, f5, f6⟩ := zrR r2; go_simp <;> with_reducible rfl
      try simp only [Act.put, List.getElem_toArray, List.getElem_cons_zero, List.getElem_cons_succ, List.setIfInBounds_toArray, List.set_cons_zero, List.set_cons_succ]
      refine wpAnyH_take (i := 12) (v := ?_) rfl (by kernel_rfl) (by kernel_rfl) (by kernel_rfl) (fun c a w h => hQ0 c a _ _ w h) (Or.inl ⟨by rfl, ?_⟩) hHeld ?_
      rotate_left
      · intro w0 hSw; (try dsimp only at hSw); obtain ⟨r1, r2⟩ := hSw; obtain ⟨g0, g1, g2, g3, g4, g5, g6, g7, g8, g9, g10, g11, g12⟩ := tcsR r1; obtain ⟨f0, f1, f2, f3, f4, f5, f6⟩ := zrR r2; go_simp <;> with_reducible rfl
      try simp only [Act.put, List.getElem_toArray, List.getElem_cons_zero, List.getElem_cons_succ, List.setIfInBounds_toArray, List.set_cons_zero, List.set_cons_succ]
      refine wpAnyH_take (i := 13) (v := ?_) rfl (by kernel_rfl) (by kernel_rfl) (by kernel_rfl) (fun c a w h => hQ0 c a _ _ w h) (Or.inl ⟨by rfl, ?_⟩) hHeld ?_
      rotate_left
      · intro w0 hSw; (try dsimp only at hSw); obtain ⟨r1, r2⟩ := hSw; obtain ⟨g0, g1, g2, g3, g4, g5, g6, g7, g8, g9, g10, g11, g12⟩ := tcsR r1; obtain ⟨f0, f1, f2, f3, f4, f5, f6⟩ := zrR r2; go_simp <;> with_reducible rfl
      try simp only [Act.put, List.getElem_toArray, List.getElem_cons_zero, List.getElem_cons_succ, List.setIfInBounds_toArray, List.set_cons_zero, List.set_cons_succ]
      refine wpAnyH_take (i := 14) (v := ?_) rfl (by kernel_rfl) (by kernel_rfl) (by kernel_rfl) (fun c a w h => hQ0 c a _ _ w h) (Or.inl ⟨by rfl, ?_⟩) hHeld ?_
      rotate_left
      · intro w0 hSw; (try dsimp only at hSw); obtain ⟨r1, r2⟩ := hSw; obtain ⟨g0, g1, g2, g3, g4, g5, g6, g7, g8, g9, g10, g11, g12⟩ := tcsR r1; obtain ⟨f0, f1, f2, f3, f4, f5, f6⟩ := zrR r2; go_simp <;> with_reducible rfl
      try simp only [Act.put, List.getElem_toArray, List.getElem_cons_zero, List.getElem_cons_succ, List.setIfInBounds_toArray, List.set_cons_zero, List.set_cons_succ]
      refine wpAnyH_take (i := 15) (v := ?_) rfl (by kernel_rfl) (by kernel_rfl) (by kernel_rfl) (fun c a w h => hQ0 c a _ _ w h) (Or.inl ⟨by rfl, ?_⟩) hHeld ?_
      rotate_left
      · intro w0 hSw; (try dsimp only at hSw); obtain ⟨r1, r2⟩ := hSw; obtain ⟨g0, g1, g2, g3, g4, g5, g6, g7, g8, g9, g10, g11, g12⟩ := tcsR r1; obtain ⟨f0, f1, f2, f3, f4, f5, f6⟩ := zrR r2; go_simp <;> with_reducible rfl
      try simp only [Act.put, List.getElem_toArray, List.getElem_cons_zero, List.getElem_cons_succ, List.setIfInBounds_toArray, List.set_cons_zero, List.set_cons_succ]
      refine wpAnyH_take (i := 17) (v := ?_) rfl (by kernel_rfl) (by kernel_rfl) (by kernel_rfl) (fun c a w h => hQ0 c a _ _ w h) (Or.inl ⟨by rfl, ?_⟩) hHeld ?_
      rotate_left
      · intro w0 hSw; (try dsimp only at hSw); obtain ⟨r1, r2⟩ := hSw; obtain ⟨g0, g1, g2, g3, g4, g5, g6, g7, g8, g9, g10, g11, g12⟩ := tcsR r1; obtain ⟨f0, f1, f2, f3, f4, f5, f6⟩ := zrR r2; go_simp <;> with_reducible rfl
      try simp only [Act.put, List.getElem_toArray, List.getElem_cons_zero, List.getElem_cons_succ, List.setIfInBounds_toArray, List.set_cons_zero, List.set_cons_succ]
      refine wpAnyH_ready (rs := [16]) (by kernel_rfl) (by simp) ?_
      refine AllReadyH.cons rfl (fun K0 hK0 => ?_) AllReadyH.nil
      rw [if_pos (by first | (simp [Region.wanted]; done) | rfl)]
      go_simp
      refine (nanosI q.ts _ hIe).mono ?_
      rintro e c1 ⟨rfl, bc1⟩
      have bc1' : Below WQ.heap.size WQ c1 := Below.step bc0' bc1
      refine hK0.out _ _ ⟨range_below HG3.out bc1', range_below HR3.out bc1'⟩ (fun hHeld => ?_)
      clear hK0 K0
      try simp only [Act.put, List.getElem_toArray, List.getElem_cons_zero, List.getElem_cons_succ, List.setIfInBounds_toArray, List.set_cons_zero, List.set_cons_succ]
      refine wpAnyH_take (i := 18) (v := ?_) rfl (by kernel_rfl) (by kernel_rfl) (by kernel_rfl) (fun c a w h => hQ0 c a _ _ w h) (Or.inl ⟨by rfl, ?_⟩) hHeld ?_
      rotate_left
      · intro w0 hSw; (try dsimp only at hSw); obtain ⟨r1, r2⟩ := hSw; obtain ⟨g0, g1, g2, g3, g4, g5, g6, g7, g8, g9, g10, g11, g12⟩ := tcsR r1; obtain ⟨f0, f1, f2, f3, f4, f5, f6⟩ := zrR r2; go_simp <;> with_reducible rfl
      try simp only [Act.put, List.getElem_toArray, List.getElem_cons_zero, List.getElem_cons_succ, List.setIfInBounds_toArray, List.set_cons_zero, List.set_cons_succ]
      refine wpAnyH_take (i := 19) (v := ?_) rfl (by kernel_rfl) (by kernel_rfl) (by kernel_rfl) (fun c a w h => hQ0 c a _ _ w h) (Or.inl ⟨by rfl, ?_⟩) hHeld ?_
      rotate_left
      · intro w0 hSw; (try dsimp only at hSw); obtain ⟨r1, r2⟩ := hSw; obtain ⟨g0, g1, g2, g3, g4, g5, g6, g7, g8, g9, g10, g11, g12⟩ := tcsR r1; obtain ⟨f0, f1, f2, f3, f4, f5, f6⟩ := zrR r2; go_simp <;> with_reducible rfl
      try simp only [Act.put, List.getElem_toArray, List.getElem_cons_zero, List.getElem_cons_succ, List.setIfInBounds_toArray, List.set_cons_zero, List.set_cons_succ]
      refine wpAnyH_take (i := 20) (v := ?_) rfl (by kernel_rfl) (by kernel_rfl) (by kernel_rfl) (fun c a w h => hQ0 c a _ _ w h) (Or.inl ⟨by rfl, ?_⟩) hHeld ?_
      rotate_left
      · intro w0 hSw; (try dsimp only at hSw); obtain ⟨r1, r2⟩ := hSw; obtain ⟨g0, g1, g2, g3, g4, g5, g6, g7, g8, g9, g10, g11, g12⟩ := tcsR r1; obtain ⟨f0, f1, f2, f3, f4, f5, f6⟩ := zrR r2; go_simp <;> with_reducible rfl
      try simp only [Act.put, List.getElem_toArray, List.getElem_cons_zero, List.getElem_cons_succ, List.setIfInBounds_toArray, List.set_cons_zero, List.set_cons_succ]
      refine wpAnyH_take (i := 21) (v := ?_) rfl (by kernel_rfl) (by kernel_rfl) (by kernel_rfl) (fun c a w h => hQ0 c a _ _ w h) (Or.inl ⟨by rfl, ?_⟩) hHeld ?_
      rotate_left
      · intro w0 hSw; (try dsimp only at hSw); obtain ⟨r1, r2⟩ := hSw; obtain ⟨g0, g1, g2, g3, g4, g5, g6, g7, g8, g9, g10, g11, g12⟩ := tcsR r1; obtain ⟨f0, f1, f2, f3, f4, f5, f6⟩ := zrR r2; go_simp <;> with_reducible rfl
      try simp only [Act.put, List.getElem_toArray, List.getElem_cons_zero, List.getElem_cons_succ, List.setIfInBounds_toArray, List.set_cons_zero, List.set_cons_succ]
      refine wpAnyH_take (i := 22) (v := ?_) rfl (by kernel_rfl) (by kernel_rfl) (by kernel_rfl) (fun c a w h => hQ0 c a _ _ w h) (Or.inl ⟨by rfl, ?_⟩) hHeld ?_
      rotate_left
      · intro w0 hSw; (try dsimp only at hSw); obtain ⟨r1, r2⟩ := hSw; obtain ⟨g0, g1, g2, g3, g4, g5, g6, g7, g8, g9, g10, g11, g12⟩ := tcsR r1; obtain ⟨f0, f1, f2, f3, f4, f5, f6⟩ := zrR r2; go_simp <;> with_reducible rfl
      try simp only [Act.put, List.getElem_toArray, List.getElem_cons_zero, List.getElem_cons_succ, List.setIfInBounds_toArray, List.set_cons_zero, List.set_cons_succ]
      refine wpAnyH_take (i := 23) (v := ?_) rfl (by kernel_rfl) (by kernel_rfl) (by kernel_rfl) (fun c a w h => hQ0 c a _ _ w h) (Or.inl ⟨by rfl, ?_⟩) hHeld ?_
      rotate_left
      · intro w0 hSw; (try dsimp only at hSw); obtain ⟨r1, r2⟩ := hSw; obtain ⟨g0, g1, g2, g3, g4, g5, g6, g7, g8, g9, g10, g11, g12⟩ := tcsR r1; obtain ⟨f0, f1, f2, f3, f4, f5, f6⟩ := zrR r2; go_simp <;> with_reducible rfl
      try simp only [Act.put, List.getElem_toArray, List.getElem_cons_zero, List.getElem_cons_succ, List.setIfInBounds_toArray, List.set_cons_zero, List.set_cons_succ]
      refine wpAnyH_take (i := 24) (v := ?_) rfl (by kernel_rfl) (by kernel_rfl) (by kernel_rfl) (fun c a w h => hQ0 c a _ _ w h) (Or.inl ⟨by rfl, ?_⟩) hHeld ?_
      rotate_left
      · intro w0 hSw; (try dsimp only at hSw); obtain ⟨r1, r2⟩ := hSw; obtain ⟨g0, g1, g2, g3, g4, g5, g6, g7, g8, g9, g10, g11, g12⟩ := tcsR r1; obtain ⟨f0, f1, f2, f3, f4, f5, f6⟩ := zrR r2; go_simp <;> with_reducible rfl
      try simp only [Act.put, List.getElem_toArray, List.getElem_cons_zero, List.getElem_cons_succ, List.setIfInBounds_toArray, List.set_cons_zero, List.set_cons_succ]
      refine wpAnyH_take (i := 25) (v := ?_) rfl (by kernel_rfl) (by kernel_rfl) (by kernel_rfl) (fun c a w h => hQ0 c a _ _ w h) (Or.inl ⟨by rfl, ?_⟩) hHeld ?_
      rotate_left
      · intro w0 hSw; (try dsimp only at hSw); obtain ⟨r1, r2⟩ := hSw; obtain ⟨g0, g1, g2, g3, g4, g5, g6, g7, g8, g9, g10, g11, g12⟩ := tcsR r1; obtain ⟨f0, f1, f2, f3, f4, f5, f6⟩ := zrR r2; go_simp <;> with_reducible rfl
      try simp only [Act.put, List.getElem_toArray, List.getElem_cons_zero, List.getElem_cons_succ, List.setIfInBounds_toArray, List.set_cons_zero, List.set_cons_succ]
      refine wpAnyH_take (i := 26) (v := ?_) rfl (by kernel_rfl) (by kernel_rfl) (by kernel_rfl) (fun c a w h => hQ0 c a _ _ w h) (Or.inl ⟨by rfl, ?_⟩) hHeld ?_
      rotate_left
      · intro w0 hSw; (try dsimp only at hSw); obtain ⟨r1, r2⟩ := hSw; obtain ⟨g0, g1, g2, g3, g4, g5, g6, g7, g8, g9, g10, g11, g12⟩ := tcsR r1; obtain ⟨f0, f1, f2, f3, f4, f5, f6⟩ := zrR r2; go_simp <;> with_reducible rfl
      try simp only [Act.put, List.getElem_toArray, List.getElem_cons_zero, List.getElem_cons_succ, List.setIfInBounds_toArray, List.set_cons_zero, List.set_cons_succ]
      refine wpAnyH_take (i := 27) (v := ?_) rfl (by kernel_rfl) (by kernel_rfl) (by kernel_rfl) (fun c a w h => hQ0 c a _ _ w h) (Or.inl ⟨by rfl, ?_⟩) hHeld ?_
      rotate_left
      · intro w0 hSw; (try dsimp only at hSw); obtain ⟨r1, r2⟩ := hSw; obtain ⟨g0, g1, g2, g3, g4, g5, g6, g7, g8, g9, g10, g11, g12⟩ := tcsR r1; obtain ⟨f0, f1, f2, f3, f4, f5, f6⟩ := zrR r2; go_simp <;> with_reducible rfl
      try simp only [Act.put, List.getElem_toArray, List.getElem_cons_zero, List.getElem_cons_succ, List.setIfInBounds_toArray, List.set_cons_zero, List.set_cons_succ]
      refine wpAnyH_take (i := 28) (v := ?_) rfl (by kernel_rfl) (by kernel_rfl) (by kernel_rfl) (fun c a w h => hQ0 c a _ _ w h) (Or.inl ⟨by rfl, ?_⟩) hHeld ?_
      rotate_left
      · intro w0 hSw; (try dsimp only at hSw); obtain ⟨r1, r2⟩ := hSw; obtain ⟨g0, g1, g2, g3, g4, g5, g6, g7, g8, g9, g10, g11, g12⟩ := tcsR r1; obtain ⟨f0, f1, f2, f3, f4, f5, f6⟩ := zrR r2; go_simp <;> with_reducible rfl
      try simp only [Act.put, List.getElem_toArray, List.getElem_cons_zero, List.getElem_cons_succ, List.setIfInBounds_toArray, List.set_cons_zero, List.set_cons_succ]
      refine wpAnyH_take (i := 29) (v := ?_) rfl (by kernel_rfl) (by kernel_rfl) (by kernel_rfl) (fun c a w h => hQ0 c a _ _ w h) (Or.inl ⟨by rfl, ?_⟩) hHeld ?_
      rotate_left
      · intro w0 hSw; (try dsimp only at hSw); obtain ⟨r1, r2⟩ := hSw; obtain ⟨g0, g1, g2, g3, g4, g5, g6, g7, g8, g9, g10, g11, g12⟩ := tcsR r1; obtain ⟨f0, f1, f2, f3, f4, f5, f6⟩ := zrR r2; go_simp <;> with_reducible rfl
      try simp only [Act.put, List.getElem_toArray, List.getElem_cons_zero, List.getElem_cons_succ, List.setIfInBounds_toArray, List.set_cons_zero, List.set_cons_succ]
      refine wpAnyH_take (i := 30) (v := ?_) rfl (by kernel_rfl) (by kernel_rfl) (by kernel_rfl) (fun c a w h => hQ0 c a _ _ w h) (Or.inl ⟨by rfl, ?_⟩) hHeld ?_
      rotate_left
      · intro w0 hSw; (try dsimp only at hSw); obtain ⟨r1, r2⟩ := hSw; obtain ⟨g0, g1, g2, g3, g4, g5, g6, g7, g8, g9, g10, g11, g12⟩ := tcsR r1; obtain ⟨f0, f1, f2, f3, f4, f5, f6⟩ := zrR r2; go_simp <;> with_reducible rfl
      try simp only [Act.put, List.getElem_toArray, List.getElem_cons_zero, List.getElem_cons_succ, List.setIfInBounds_toArray, List.set_cons_zero, List.set_cons_succ]
      refine wpAnyH_take (i := 31) (v := ?_) rfl (by kernel_rfl) (by kernel_rfl) (by kernel_rfl) (fun c a w h => hQ0 c a _ _ w h) (Or.inl ⟨by rfl, ?_⟩) hHeld ?_
      rotate_left
      · intro w0 hSw; (try dsimp only at hSw); obtain ⟨r1, r2⟩ := hSw; obtain ⟨g0, g1, g2, g3, g4, g5, g6, g7, g8, g9, g10, g11, g12⟩ := tcsR r1; obtain ⟨f0, f1, f2, f3, f4, f5, f6⟩ := zrR r2; go_simp <;> with_reducible rfl
      try simp only [Act.put, List.getElem_toArray, List.getElem_cons_zero, List.getElem_cons_succ, List.setIfInBounds_toArray, List.set_cons_zero, List.set_cons_succ]
      refine wpAnyH_take (i := 32) (v := ?_) rfl (by kernel_rfl) (by kernel_rfl) (by kernel_rfl) (fun c a w h => hQ0 c a _ _ w h) (Or.inl ⟨by rfl, ?_⟩) hHeld ?_
      rotate_left
      · intro w0 hSw; (try dsimp only at hSw); obtain ⟨r1, r2⟩ := hSw; obtain ⟨g0, g1, g2, g3, g4, g5, g6, g7, g8, g9, g10, g11, g12⟩ := tcsR r1; obtain ⟨f0, f1, f2, f3, f4, f5, f6⟩ := zrR r2; go_simp <;> with_reducible rfl
      try simp only [Act.put, List.getElem_toArray, List.getElem_cons_zero, List.getElem_cons_succ, List.setIfInBounds_toArray, List.set_cons_zero, List.set_cons_succ]
      refine wpAnyH_take (i := 33) (v := ?_) rfl (by kernel_rfl) (by kernel_rfl) (by kernel_rfl) (fun c a w h => hQ0 c a _ _ w h) (Or.inl ⟨by rfl, ?_⟩) hHeld ?_
      rotate_left
      · intro w0 hSw; (try dsimp only at hSw); obtain ⟨r1, r2⟩ := hSw; obtain ⟨g0, g1, g2, g3, g4, g5, g6, g7, g8, g9, g10, g11, g12⟩ := tcsR r1; obtain ⟨f0, f1, f2, f3, f4, f5, f6⟩ := zrR r2; go_simp <;> with_reducible rfl
      try simp only [Act.put, List.getElem_toArray, List.getElem_cons_zero, List.getElem_cons_succ, List.setIfInBounds_toArray, List.set_cons_zero, List.set_cons_succ]
      refine wpAnyH_take (i := 34) (v := ?_) rfl (by kernel_rfl) (by kernel_rfl) (by kernel_rfl) (fun c a w h => hQ0 c a _ _ w h) (Or.inl ⟨by rfl, ?_⟩) hHeld ?_
      rotate_left
      · intro w0 hSw; (try dsimp only at hSw); obtain ⟨r1, r2⟩ := hSw; obtain ⟨g0, g1, g2, g3, g4, g5, g6, g7, g8, g9, g10, g11, g12⟩ := tcsR r1; obtain ⟨f0, f1, f2, f3, f4, f5, f6⟩ := zrR r2; go_simp <;> with_reducible rfl
      try simp only [Act.put, List.getElem_toArray, List.getElem_cons_zero, List.getElem_cons_succ, List.setIfInBounds_toArray, List.set_cons_zero, List.set_cons_succ]
      refine wpAnyH_take (i := 35) (v := ?_) rfl (by kernel_rfl) (by kernel_rfl) (by kernel_rfl) (fun c a w h => hQ0 c a _ _ w h) (Or.inl ⟨by rfl, ?_⟩) hHeld ?_
      rotate_left
      · intro w0 hSw; (try dsimp only at hSw); obtain ⟨r1, r2⟩ := hSw; obtain ⟨g0, g1, g2, g3, g4, g5, g6, g7, g8, g9, g10, g11, g12⟩ := tcsR r1; obtain ⟨f0, f1, f2, f3, f4, f5, f6⟩ := zrR r2; go_simp <;> with_reducible rfl
      try simp only [Act.put, List.getElem_toArray, List.getElem_cons_zero, List.getElem_cons_succ, List.setIfInBounds_toArray, List.set_cons_zero, List.set_cons_succ]
      refine wpAnyH_take (i := 36) (v := ?_) rfl (by kernel_rfl) (by kernel_rfl) (by kernel_rfl) (fun c a w h => hQ0 c a _ _ w h) (Or.inl ⟨by rfl, ?_⟩) hHeld ?_
      rotate_left
      · intro w0 hSw; (try dsimp only at hSw); obtain ⟨r1, r2⟩ := hSw; obtain ⟨g0, g1, g2, g3, g4, g5, g6, g7, g8, g9, g10, g11, g12⟩ := tcsR r1; obtain ⟨f0, f1, f2, f3, f4, f5, f6⟩ := zrR r2; go_simp <;> with_reducible rfl
      try simp only [Act.put, List.getElem_toArray, List.getElem_cons_zero, List.getElem_cons_succ, List.setIfInBounds_toArray, List.set_cons_zero, List.set_cons_succ]
      refine wpAnyH_take (i := 37) (v := ?_) rfl (by kernel_rfl) (by kernel_rfl) (by kernel_rfl) (fun c a w h => hQ0 c a _ _ w h) (Or.inl ⟨by rfl, ?_⟩) hHeld ?_
      rotate_left
      · intro w0 hSw; (try dsimp only at hSw); obtain ⟨r1, r2⟩ := hSw; obtain ⟨g0, g1, g2, g3, g4, g5, g6, g7, g8, g9, g10, g11, g12⟩ := tcsR r1; obtain ⟨f0, f1, f2, f3, f4, f5, f6⟩ := zrR r2; go_simp <;> with_reducible rfl
      try simp only [Act.put, List.getElem_toArray, List.getElem_cons_zero, List.getElem_cons_succ, List.setIfInBounds_toArray, List.set_cons_zero, List.set_cons_succ]
      refine wpAnyH_take (i := 38) (v := ?_) rfl (by kernel_rfl) (by kernel_rfl) (by kernel_rfl) (fun c a w h => hQ0 c a _ _ w h) (Or.inl ⟨by rfl, ?_⟩) hHeld ?_
      rotate_left
      · intro w0 hSw; (try dsimp only at hSw); obtain ⟨r1, r2⟩ := hSw; obtain ⟨g0, g1, g2, g3, g4, g5, g6, g7, g8, g9, g10, g11, g12⟩ := tcsR r1; obtain ⟨f0, f1, f2, f3, f4, f5, f6⟩ := zrR r2; go_simp <;> with_reducible rfl
      try simp only [Act.put, List.getElem_toArray, List.getElem_cons_zero, List.getElem_cons_succ, List.setIfInBounds_toArray, List.set_cons_zero, List.set_cons_succ]
      refine wpAnyH_take (i := 39) (v := ?_) rfl (by kernel_rfl) (by kernel_rfl) (by kernel_rfl) (fun c a w h => hQ0 c a _ _ w h) (Or.inl ⟨by rfl, ?_⟩) hHeld ?_
      rotate_left
      · intro w0 hSw; (try dsimp only at hSw); obtain ⟨r1, r2⟩ := hSw; obtain ⟨g0, g1, g2, g3, g4, g5, g6, g7, g8, g9, g10, g11, g12⟩ := tcsR r1; obtain ⟨f0, f1, f2, f3, f4, f5, f6⟩ := zrR r2; go_simp <;> with_reducible rfl
      try simp only [Act.put, List.getElem_toArray, List.getElem_cons_zero, List.getElem_cons_succ, List.setIfInBounds_toArray, List.set_cons_zero, List.set_cons_succ]
      refine wpAnyH_take (i := 40) (v := ?_) rfl (by kernel_rfl) (by kernel_rfl) (by kernel_rfl) (fun c a w h => hQ0 c a _ _ w h) (Or.inl ⟨by rfl, ?_⟩) hHeld ?_
      rotate_left
      · intro w0 hSw; (try dsimp only at hSw); obtain ⟨r1, r2⟩ := hSw; obtain ⟨g0, g1, g2, g3, g4, g5, g6, g7, g8, g9, g10, g11, g12⟩ := tcsR r1; obtain ⟨f0, f1, f2, f3, f4, f5, f6⟩ := zrR r2; go_simp <;> with_reducible rfl
      try simp only [Act.put, List.getElem_toArray, List.getElem_cons_zero, List.getElem_cons_succ, List.setIfInBounds_toArray, List.set_cons_zero, List.set_cons_succ]
      refine wpAnyH_take (i := 41) (v := ?_) rfl (by kernel_rfl) (by kernel_rfl) (by kernel_rfl) (fun c a w h => hQ0 c a _ _ w h) (Or.inl ⟨by rfl, ?_⟩) hHeld ?_
      rotate_left
      · intro w0 hSw; (try dsimp only at hSw); obtain ⟨r1, r2⟩ := hSw; obtain ⟨g0, g1, g2, g3, g4, g5, g6, g7, g8, g9, g10, g11, g12⟩ := tcsR r1; obtain ⟨f0, f1, f2, f3, f4, f5, f6⟩ := zrR r2; go_simp <;> with_reducible rfl
      try simp only [Act.put, List.getElem_toArray, List.getElem_cons_zero, List.getElem_cons_succ, List.setIfInBounds_toArray, List.set_cons_zero, List.set_cons_succ]
      refine wpAnyH_take (i := 42) (v := ?_) rfl (by kernel_rfl) (by kernel_rfl) (by kernel_rfl) (fun c a w h => hQ0 c a _ _ w h) (Or.inl ⟨by rfl, ?_⟩) hHeld ?_
      rotate_left
      · intro w0 hSw; (try dsimp only at hSw); obtain ⟨r1, r2⟩ := hSw; obtain ⟨g0, g1, g2, g3, g4, g5, g6, g7, g8, g9, g10, g11, g12⟩ := tcsR r1; obtain ⟨f0, f1, f2, f3, f4, f5, f6⟩ := zrR r2; go_simp <;> with_reducible rfl
      try simp only [Act.put, List.getElem_toArray, List.getElem_cons_zero, List.getElem_cons_succ, List.setIfInBounds_toArray, List.set_cons_zero, List.set_cons_succ]
      refine wpAnyH_take (i := 43) (v := ?_) rfl (by kernel_rfl) (by kernel_rfl) (by kernel_rfl) (fun c a w h => hQ0 c a _ _ w h) (Or.inl ⟨by rfl, ?_⟩) hHeld ?_
      rotate_left
      · intro w0 hSw; (try dsimp only at hSw); obtain ⟨r1, r2⟩ := hSw; obtain ⟨g0, g1, g2, g3, g4, g5, g6, g7, g8, g9, g10, g11, g12⟩ := tcsR r1; obtain ⟨f0, f1, f2, f3, f4, f5, f6⟩ := zrR r2; go_simp <;> with_reducible rfl
      try simp only [Act.put, List.getElem_toArray, List.getElem_cons_zero, List.getElem_cons_succ, List.setIfInBounds_toArray, List.set_cons_zero, List.set_cons_succ]
      refine wpAnyH_take (i := 44) (v := ?_) rfl (by kernel_rfl) (by kernel_rfl) (by kernel_rfl) (fun c a w h => hQ0 c a _ _ w h) (Or.inl ⟨by rfl, ?_⟩) hHeld ?_
      rotate_left
      · intro w0 hSw; (try dsimp only at hSw); obtain ⟨r1, r2⟩ := hSw; obtain ⟨g0, g1, g2, g3, g4, g5, g6, g7, g8, g9, g10, g11, g12⟩ := tcsR r1; obtain ⟨f0, f1, f2, f3, f4, f5, f6⟩ := zrR r2; go_simp <;> with_reducible rfl
      try simp only [Act.put, List.getElem_toArray, List.getElem_cons_zero, List.getElem_cons_succ, List.setIfInBounds_toArray, List.set_cons_zero, List.set_cons_succ]
      refine wpAnyH_ready (rs := [45]) (by kernel_rfl) (by simp) ?_
      refine AllReadyH.cons rfl (fun K0 hK0 => ?_) AllReadyH.nil
      rw [if_pos (by first | (simp [Region.wanted]; done) | rfl)]
      go_simp
      refine (Rm.feq_self q.val _).mono ?_
      rintro e _ ⟨rfl, rfl⟩
      refine hK0.out _ _ ⟨range_below HG3.out bc1', range_below HR3.out bc1'⟩ (fun hHeld => ?_)
      clear hK0 K0
      try simp only [Act.put, List.getElem_toArray, List.getElem_cons_zero, List.getElem_cons_succ, List.setIfInBounds_toArray, List.set_cons_zero, List.set_cons_succ]
      refine wpAnyH_take (i := 46) (v := ?_) rfl (by kernel_rfl) (by kernel_rfl) (by kernel_rfl) (fun c a w h => hQ0 c a _ _ w h) (Or.inl ⟨by rfl, ?_⟩) hHeld ?_
      rotate_left
      · intro w0 hSw; (try dsimp only at hSw); obtain ⟨r1, r2⟩ := hSw; obtain ⟨g0, g1, g2, g3, g4, g5, g6, g7, g8, g9, g10, g11, g12⟩ := tcsR r1; obtain ⟨f0, f1, f2, f3, f4, f5, f6⟩ := zrR r2; go_simp <;> with_reducible rfl
      try simp only [Act.put, List.getElem_toArray, List.getElem_cons_zero, List.getElem_cons_succ, List.setIfInBounds_toArray, List.set_cons_zero, List.set_cons_succ]
      refine wpAnyH_take (i := 47) (v := ?_) rfl (by kernel_rfl) (by kernel_rfl) (by kernel_rfl) (fun c a w h => hQ0 c a _ _ w h) (Or.inl ⟨by rfl, ?_⟩) hHeld ?_
      rotate_left
      · intro w0 hSw; (try dsimp only at hSw); obtain ⟨r1, r2⟩ := hSw; obtain ⟨g0, g1, g2, g3, g4, g5, g6, g7, g8, g9, g10, g11, g12⟩ := tcsR r1; obtain ⟨f0, f1, f2, f3, f4, f5, f6⟩ := zrR r2; go_simp <;> with_reducible rfl
      try simp only [Act.put, List.getElem_toArray, List.getElem_cons_zero, List.getElem_cons_succ, List.setIfInBounds_toArray, List.set_cons_zero, List.set_cons_succ]
      refine wpAnyH_done (by kernel_rfl) ?_ _
      go_wp2_with fail
      first | exact Below.step HB3.out bc1' | exact HEND.out _ _ _ _ _ _ _ _ _ _ _ _ _ _ _ _ _ _ _ _ _ _ _ _ _ _ _ _ _ _ _ _ _ _ _ _ _ _ _ _ _ _ _ _ _ _ _ _ _ _ _ _ _ _ _ _ _ _ _ _ _ _ _ _ _ _ _ _ _ _ _ _ _ _ _ _ _ _ _ _ _ _ _ _ _ _ _ _ _ _ _ _ _ _ _ _ _ _ _ _ _ _ _ _ _ _ _ _ _ _ _ _ _ _ _ _ _ _ _ _ _ _ _ _ _ _ _ _ _ _ _ _ _ _ _ _ _ _ _ _ _ _ _ _ _ _ _ _ _ _ _ _ _ _ _ _ _ _ _ _ _ _ _ _ _ _ _ _ _ _ _ _ _ _ _ _ _ _ _ _ _ _ _ _ _ _ _ _ _ _ _ _ _ _ _ _ _ _ _ _ _ _ _ _ _ _ (Below.step HB3.out bc1')
    | succ k =>
      have e0 : ((k + 1 : Nat) : Int) - 1 = (k : Int) := by omega
      rw [e0]
      clear e0
      have hkl2 : k < K.length := by omega
      rcases HKV.out with hK0 | ⟨kb2, hkb2, hKK⟩
      · rw [hK0] at hkl2; simp at hkl2
      obtain rfl := hkb2
      have hr2 : wr.rangeAt kb2 (k * 11) (zkCells K[k]) := by simpa using (hKK.below hb2).range k hkl2
      have hrdk : rdAt K q.rule q.sensor k = (!(K[k].state.toList == [79, 75]) && (K[k].rule.toList == q.rule.toList) && (K[k].sensor.toList == q.sensor.toList)) := by unfold rdAt; rw [getD_at K noKey k hkl2, okB_list]
      have hnf : rdAt K q.rule q.sensor k = false := by
        cases h : rdAt K q.rule q.sensor k with
        | false => rfl
        | true => have := lastTo_max' (rdAt K q.rule q.sensor) K.length k hkl2 h; have := hrd.out; omega
      rw [hrdk] at hnf
      clear hrdk
      generalize K[k] = z at *
      have HNF : Hid ((!(z.state.toList == [79, 75]) && (z.rule.toList == q.rule.toList) && (z.sensor.toList == q.sensor.toList)) = false) := hnf
      clear hnf
      obtain ⟨h0, h1, h2, h3, h4, h5, h6, h7, h8, h9, h10⟩ := zkR hr2
      obtain ⟨f0, f1, f2, f3, f4, f5, f6⟩ := zrR (range_below HRV.out hb2)
      clear hr2 hKK
      cases hs : (z.state.toList == [79, 75])
      · cases hru : (z.rule.toList == q.rule.toList)
        · have hru' : ¬ z.rule.toList = q.rule.toList := by simpa using hru
          go_wp2
          go_quiet (fail)
          go_wp2
          exact ⟨⟨k, by omega, by go_num, rfl, rfl, rfl, rfl, below_drewN hb2 _⟩, by simp [intOf]⟩
        · have hru' : z.rule.toList = q.rule.toList := by simpa using hru
          have hse : (z.sensor.toList == q.sensor.toList) = false := by have := HNF.out; rw [hs, hru] at this; simpa using this
          have hse' : ¬ z.sensor.toList = q.sensor.toList := by simpa using hse
          go_wp2
          go_quiet (fail)
          go_wp2
          exact ⟨⟨k, by omega, by go_num, rfl, rfl, rfl, rfl, below_drewN hb2 _⟩, by simp [intOf]⟩
      · go_wp2
        go_quiet (fail)
        go_wp2
        exact ⟨⟨k, by omega, by go_num, rfl, rfl, rfl, rfl, below_drewN hb2 _⟩, by simp [intOf]⟩

end
end Go.Proofs.Qxb6605676a.Kz
