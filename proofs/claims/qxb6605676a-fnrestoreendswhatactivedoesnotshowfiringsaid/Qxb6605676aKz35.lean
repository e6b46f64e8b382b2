import Derived.Test.Qxb6605676aK7f
import Derived.Test.Qxb6605676aK7np0
import Derived.Test.Qxb6605676aK7np1
import Derived.Test.Qxb6605676aK7pa0
import Derived.Test.Qxb6605676aK7pa1
import Derived.Test.Qxb6605676aK7pf0
import Derived.Test.Qxb6605676aK7pf1
namespace Go.Proofs.Qxb6605676a.Kz
set_option linter.unusedVariables false
set_option linter.unusedSimpArgs false
open Go.RowKit Go.Proofs.Qxb6605676a.Mp Go.Proofs.Qxb6605676a.Tm Go.Proofs.Qxb6605676a.En

section
variable {rz tb o : Nat} {R : List RuleD} {K : List ZK} {ka : Option Addr} {w wr : World} {T' : List ZR}

set_option maxRecDepth 100000 in
theorem round30 (P0 : Act → World → Prop) (Q0 : Exit → Act → World → Prop) (hQ0 : ∀ c a d v w, Q0 (.panic c) (Act.put a d v) w → Q0 (.panic c) a w) (j kc tc ec : Nat) (ea : Option Addr) (hjn : j < T'.length) (hn : T'.length ≤ 4096) (hkl : K.length ≤ 4096) (hRl : R.length ≤ 1000) (hRs : ∀ r ∈ R, r.sevs.length ≤ 1000) (hokK : ∀ q ∈ K, ZK.Ok q) (hokT : ∀ q ∈ T', ZR.Ok q)
    (hE : endL R K T' = [] ∨ ∃ g, ea = some ⟨g, 0, none⟩ ∧ RowsAt wr g 13 (teCells K) (endL R K T'))
    (hR : Hid (RulesAt wr rz R)) (hK : Hid (KArg wr ka K)) (hT : RaisedAt wr tb o T') (hb : Hid (Below w.heap.size w wr)) (u8 u11 u12 u13 u14 u15 u16 u17 u18 u19 u20 u21 u22 u23 u24 u25 u26 u27 u28 u29 u30 u31 u32 u33 u34 u35 u36 u37 u38 u39 u40 u41 u42 u43 u44 u45 u46 u47 u48 u49 u50 u51 u52 u53 u54 u55 u56 u57 u58 u59 u60 u61 u62 u63 u64 u65 u66 u67 u68 u69 u70 u71 u72 u73 u74 u75 u76 u77 u78 u79 u80 u81 u82 u83 u84 u85 u86 u87 u88 u89 u90 u91 u92 u93 u94 u95 u96 u97 u98 u99 u100 u101 u102 u103 u104 u105 u106 u107 u108 u109 u110 u111 u112 u113 u114 u115 u116 u117 u118 u119 u120 u121 u122 u123 u124 u125 u126 u127 u128 u129 u130 u131 u132 u133 u134 u135 u136 u137 u138 u139 u140 u141 u142 u143 u144 u145 u146 u147 u148 u149 u150 u151 u152 u153 u154 u155 u156 u157 u158 u159 u160 u161 u162 u163 u164 u165 u166 u167 u168 u169 u170 u171 u172 u173 u174 u175 u176 u177 u178 u179 u180 u181 u182 u183 u184 u185 u186 u187 u188 u189 u190 u191 u192 u193 u194 u195 u196 u197 u198 u199 u200 u201 u202 u203 u204 u205 u206 u207 u208 u209 u210 u211 u212 u213 u214 c4 c5 c6 c7 c215 c216 c217 c218 : Value)
    (hend : ∀ (v8 v11 v12 v13 v14 v15 v16 v17 v18 v19 v20 v21 v22 v23 v24 v25 v26 v27 v28 v29 v30 v31 v32 v33 v34 v35 v36 v37 v38 v39 v40 v41 v42 v43 v44 v45 v46 v47 v48 v49 v50 v51 v52 v53 v54 v55 v56 v57 v58 v59 v60 v61 v62 v63 v64 v65 v66 v67 v68 v69 v70 v71 v72 v73 v74 v75 v76 v77 v78 v79 v80 v81 v82 v83 v84 v85 v86 v87 v88 v89 v90 v91 v92 v93 v94 v95 v96 v97 v98 v99 v100 v101 v102 v103 v104 v105 v106 v107 v108 v109 v110 v111 v112 v113 v114 v115 v116 v117 v118 v119 v120 v121 v122 v123 v124 v125 v126 v127 v128 v129 v130 v131 v132 v133 v134 v135 v136 v137 v138 v139 v140 v141 v142 v143 v144 v145 v146 v147 v148 v149 v150 v151 v152 v153 v154 v155 v156 v157 v158 v159 v160 v161 v162 v163 v164 v165 v166 v167 v168 v169 v170 v171 v172 v173 v174 v175 v176 v177 v178 v179 v180 v181 v182 v183 v184 v185 v186 v187 v188 v189 v190 v191 v192 v193 v194 v195 v196 v197 v198 v199 v200 v201 v202 v203 v204 v205 v206 v207 v208 v209 v210 v211 v212 v213 v214 : Value) (w' : World), Below w.heap.size w w' → P0 ⟨#[.slice (some ⟨rz, 0, none⟩) R.length R.length, .slice ka K.length kc, .slice (some ⟨tb, o, none⟩) T'.length tc, .slice ea (endL R K T').length ec, c4, c5, c6, c7, v8, .int .i64 ((endL R K (T'.take (j + 1))).length : Nat), .int .i64 ((j + 1 : Nat) : Int), v11, v12, v13, v14, v15, v16, v17, v18, v19, v20, v21, v22, v23, v24, v25, v26, v27, v28, v29, v30, v31, v32, v33, v34, v35, v36, v37, v38, v39, v40, v41, v42, v43, v44, v45, v46, v47, v48, v49, v50, v51, v52, v53, v54, v55, v56, v57, v58, v59, v60, v61, v62, v63, v64, v65, v66, v67, v68, v69, v70, v71, v72, v73, v74, v75, v76, v77, v78, v79, v80, v81, v82, v83, v84, v85, v86, v87, v88, v89, v90, v91, v92, v93, v94, v95, v96, v97, v98, v99, v100, v101, v102, v103, v104, v105, v106, v107, v108, v109, v110, v111, v112, v113, v114, v115, v116, v117, v118, v119, v120, v121, v122, v123, v124, v125, v126, v127, v128, v129, v130, v131, v132, v133, v134, v135, v136, v137, v138, v139, v140, v141, v142, v143, v144, v145, v146, v147, v148, v149, v150, v151, v152, v153, v154, v155, v156, v157, v158, v159, v160, v161, v162, v163, v164, v165, v166, v167, v168, v169, v170, v171, v172, v173, v174, v175, v176, v177, v178, v179, v180, v181, v182, v183, v184, v185, v186, v187, v188, v189, v190, v191, v192, v193, v194, v195, v196, v197, v198, v199, v200, v201, v202, v203, v204, v205, v206, v207, v208, v209, v210, v211, v212, v213, v214, c215, c216, c217, c218], []⟩ w') :
    Code.wp Try.prog body30 (Exit.then P0 Q0) ⟨#[.slice (some ⟨rz, 0, none⟩) R.length R.length, .slice ka K.length kc, .slice (some ⟨tb, o, none⟩) T'.length tc, .slice ea (endL R K T').length ec, c4, c5, c6, c7, u8, .int .i64 ((endL R K (T'.take j)).length : Nat), .int .i64 j, u11, u12, u13, u14, u15, u16, u17, u18, u19, u20, u21, u22, u23, u24, u25, u26, u27, u28, u29, u30, u31, u32, u33, u34, u35, u36, u37, u38, u39, u40, u41, u42, u43, u44, u45, u46, u47, u48, u49, u50, u51, u52, u53, u54, u55, u56, u57, u58, u59, u60, u61, u62, u63, u64, u65, u66, u67, u68, u69, u70, u71, u72, u73, u74, u75, u76, u77, u78, u79, u80, u81, u82, u83, u84, u85, u86, u87, u88, u89, u90, u91, u92, u93, u94, u95, u96, u97, u98, u99, u100, u101, u102, u103, u104, u105, u106, u107, u108, u109, u110, u111, u112, u113, u114, u115, u116, u117, u118, u119, u120, u121, u122, u123, u124, u125, u126, u127, u128, u129, u130, u131, u132, u133, u134, u135, u136, u137, u138, u139, u140, u141, u142, u143, u144, u145, u146, u147, u148, u149, u150, u151, u152, u153, u154, u155, u156, u157, u158, u159, u160, u161, u162, u163, u164, u165, u166, u167, u168, u169, u170, u171, u172, u173, u174, u175, u176, u177, u178, u179, u180, u181, u182, u183, u184, u185, u186, u187, u188, u189, u190, u191, u192, u193, u194, u195, u196, u197, u198, u199, u200, u201, u202, u203, u204, u205, u206, u207, u208, u209, u210, u211, u212, u213, u214, c215, c216, c217, c218], []⟩ wr := by
  have hsu := endL_snoc R K T' j hjn
  have hat := endL_at R K T' j hjn
  have hok := hokT T'[j] (List.getElem_mem hjn)
  have hr : Hid (wr.rangeAt tb (o + j * 7) (zrCells T'[j])) := hT.range j hjn
  have hn0 : (endL R K (T'.take j)).length ≤ j := Nat.le_trans (endL_le R K _) (by simp; omega)
  have hele : (endL R K T').length ≤ T'.length := endL_le R K T'
  generalize T'[j] = q at *
  have hge : -1 ≤ plc q.rule R 0 (-1) := plc_ge q.rule R 0 (-1) (by omega)
  have hfT : firT R K q = (!decide (plc q.rule R 0 (-1) < 0) && !decide (lastTo (alarmAt R K (plc q.rule R 0 (-1)) 0 q.sensor) K.length < 0) && ((K.getD (lastTo (alarmAt R K (plc q.rule R 0 (-1)) 0 q.sensor) K.length).toNat noKey).state.toList == [70, 73, 82, 73, 78, 71])) := rfl
  cases hf : firT R K q with
  | true =>
    rw [hsu, hf, if_pos rfl, List.append_nil] at hend
    rw [hf] at hfT
    have hp : ¬ plc q.rule R 0 (-1) < 0 := by
      intro h; rw [decide_eq_true h] at hfT; simp at hfT
    obtain ⟨p, hp2⟩ : ∃ p : Nat, plc q.rule R 0 (-1) = p := ⟨(plc q.rule R 0 (-1)).toNat, by omega⟩
    rw [hp2] at hfT
    have ha : ¬ lastTo (alarmAt R K p 0 q.sensor) K.length < 0 := by
      intro h; rw [decide_eq_true h] at hfT; simp at hfT
    have halt := lastTo_lt (alarmAt R K p 0 q.sensor) K.length
    obtain ⟨a, ha2⟩ : ∃ a : Nat, lastTo (alarmAt R K p 0 q.sensor) K.length = a := ⟨(lastTo (alarmAt R K p 0 q.sensor) K.length).toNat, by omega⟩
    have hal : a < K.length := by omega
    have hst : (K[a].state.toList == [70, 73, 82, 73, 78, 71]) = true := by
      rw [ha2, Int.toNat_natCast, getD_at K noKey a hal, decide_eq_false (by omega), decide_eq_false (by omega)] at hfT
      simpa using hfT.symm
    exact w30_f P0 Q0 hQ0 q j _ T'.length kc tc hjn hn hn0 hkl hRl hRs hok p hp2 a K[a] (by simp) ha2 hst hR hK hr hb u8 u11 u12 u13 u14 u15 u16 u17 u18 u19 u20 u21 u22 u23 u24 u25 u26 u27 u28 u29 u30 u31 u32 u33 u34 u35 u36 u37 u38 u39 u40 u41 u42 u43 u44 u45 u46 u47 u48 u49 u50 u51 u52 u53 u54 u55 u56 u57 u58 u59 u60 u61 u62 u63 u64 u65 u66 u67 u68 u69 u70 u71 u72 u73 u74 u75 u76 u77 u78 u79 u80 u81 u82 u83 u84 u85 u86 u87 u88 u89 u90 u91 u92 u93 u94 u95 u96 u97 u98 u99 u100 u101 u102 u103 u104 u105 u106 u107 u108 u109 u110 u111 u112 u113 u114 u115 u116 u117 u118 u119 u120 u121 u122 u123 u124 u125 u126 u127 u128 u129 u130 u131 u132 u133 u134 u135 u136 u137 u138 u139 u140 u141 u142 u143 u144 u145 u146 u147 u148 u149 u150 u151 u152 u153 u154 u155 u156 u157 u158 u159 u160 u161 u162 u163 u164 u165 u166 u167 u168 u169 u170 u171 u172 u173 u174 u175 u176 u177 u178 u179 u180 u181 u182 u183 u184 u185 u186 u187 u188 u189 u190 u191 u192 u193 u194 u195 u196 u197 u198 u199 u200 u201 u202 u203 u204 u205 u206 u207 u208 u209 u210 u211 u212 u213 u214 _ _ _ _ _ _ _ _ _ hend
  | false =>
    rw [hsu, hf, if_neg (by simp), List.length_append, List.length_singleton] at hend
    have hat := hat hf
    have hnl : (endL R K (T'.take j)).length < (endL R K T').length := (List.getElem?_eq_some_iff.1 hat).1
    rcases hE with h0 | ⟨g, rfl, hE⟩
    · rw [h0] at hnl; simp at hnl
    have hG : Hid (wr.rangeAt g ((endL R K (T'.take j)).length * 13) (teCells K q)) := hE _ _ hat
    rw [te_fin] at hG
    have hIe := fin_ok K q hokK hok
    have hrl := lastTo_lt (rdAt K q.rule q.sensor) K.length
    have key : ∀ (P : Prop), (∀ (hrd : Hid (lastTo (rdAt K q.rule q.sensor) K.length < 0)) (hf : finRd K q = (q.ts, q.sensor, q.metric, q.val)), P) → (∀ (m : Nat) (hm : m < K.length) (hrd : Hid (lastTo (rdAt K q.rule q.sensor) K.length = m)) (hf : finRd K q = (K[m].lts, K[m].sensor, K[m].metric, K[m].val)), P) → P := by
      intro P h0 h1
      by_cases h : lastTo (rdAt K q.rule q.sensor) K.length < 0
      · exact h0 h (by unfold finRd; rw [if_pos h])
      · obtain ⟨m, hm⟩ : ∃ m : Nat, lastTo (rdAt K q.rule q.sensor) K.length = m := ⟨(lastTo (rdAt K q.rule q.sensor) K.length).toNat, by omega⟩
        have hml : m < K.length := by omega
        exact h1 m hml hm (by unfold finRd; rw [hm, if_neg (by omega), Int.toNat_natCast, getD_at K noKey m hml])
    by_cases hp : plc q.rule R 0 (-1) < 0
    · refine key _ (fun hrd hfn => ?_) (fun m hml hrd hfn => ?_)
      · rw [hfn] at hG hIe
        exact w30_np0 P0 Q0 hQ0 q j _ T'.length kc tc hjn hn hn0 hkl hRl hRs hok hp g (endL R K T').length ec hnl (by omega) q.ts q.sensor q.metric q.val hIe hG hrd rfl rfl rfl rfl hR hK hr hb u8 u11 u12 u13 u14 u15 u16 u17 u18 u19 u20 u21 u22 u23 u24 u25 u26 u27 u28 u29 u30 u31 u32 u33 u34 u35 u36 u37 u38 u39 u40 u41 u42 u43 u44 u45 u46 u47 u48 u49 u50 u51 u52 u53 u54 u55 u56 u57 u58 u59 u60 u61 u62 u63 u64 u65 u66 u67 u68 u69 u70 u71 u72 u73 u74 u75 u76 u77 u78 u79 u80 u81 u82 u83 u84 u85 u86 u87 u88 u89 u90 u91 u92 u93 u94 u95 u96 u97 u98 u99 u100 u101 u102 u103 u104 u105 u106 u107 u108 u109 u110 u111 u112 u113 u114 u115 u116 u117 u118 u119 u120 u121 u122 u123 u124 u125 u126 u127 u128 u129 u130 u131 u132 u133 u134 u135 u136 u137 u138 u139 u140 u141 u142 u143 u144 u145 u146 u147 u148 u149 u150 u151 u152 u153 u154 u155 u156 u157 u158 u159 u160 u161 u162 u163 u164 u165 u166 u167 u168 u169 u170 u171 u172 u173 u174 u175 u176 u177 u178 u179 u180 u181 u182 u183 u184 u185 u186 u187 u188 u189 u190 u191 u192 u193 u194 u195 u196 u197 u198 u199 u200 u201 u202 u203 u204 u205 u206 u207 u208 u209 u210 u211 u212 u213 u214 c4 c5 c6 c7 c215 c216 c217 c218 hend
      · rw [hfn] at hG hIe
        exact w30_np1 P0 Q0 hQ0 q j _ T'.length kc tc hjn hn hn0 hkl hRl hRs hok hp g (endL R K T').length ec hnl (by omega) K[m].lts K[m].sensor K[m].metric K[m].val hIe hG m K[m] (by simp) hrd rfl rfl rfl rfl hR hK hr hb u8 u11 u12 u13 u14 u15 u16 u17 u18 u19 u20 u21 u22 u23 u24 u25 u26 u27 u28 u29 u30 u31 u32 u33 u34 u35 u36 u37 u38 u39 u40 u41 u42 u43 u44 u45 u46 u47 u48 u49 u50 u51 u52 u53 u54 u55 u56 u57 u58 u59 u60 u61 u62 u63 u64 u65 u66 u67 u68 u69 u70 u71 u72 u73 u74 u75 u76 u77 u78 u79 u80 u81 u82 u83 u84 u85 u86 u87 u88 u89 u90 u91 u92 u93 u94 u95 u96 u97 u98 u99 u100 u101 u102 u103 u104 u105 u106 u107 u108 u109 u110 u111 u112 u113 u114 u115 u116 u117 u118 u119 u120 u121 u122 u123 u124 u125 u126 u127 u128 u129 u130 u131 u132 u133 u134 u135 u136 u137 u138 u139 u140 u141 u142 u143 u144 u145 u146 u147 u148 u149 u150 u151 u152 u153 u154 u155 u156 u157 u158 u159 u160 u161 u162 u163 u164 u165 u166 u167 u168 u169 u170 u171 u172 u173 u174 u175 u176 u177 u178 u179 u180 u181 u182 u183 u184 u185 u186 u187 u188 u189 u190 u191 u192 u193 u194 u195 u196 u197 u198 u199 u200 u201 u202 u203 u204 u205 u206 u207 u208 u209 u210 u211 u212 u213 u214 c4 c5 c6 c7 c215 c216 c217 c218 hend
    obtain ⟨p, hp2⟩ : ∃ p : Nat, plc q.rule R 0 (-1) = p := ⟨(plc q.rule R 0 (-1)).toNat, by omega⟩
    by_cases ha : lastTo (alarmAt R K p 0 q.sensor) K.length < 0
    · refine key _ (fun hrd hfn => ?_) (fun m hml hrd hfn => ?_)
      · rw [hfn] at hG hIe
        exact w30_pa0 P0 Q0 hQ0 q j _ T'.length kc tc hjn hn hn0 hkl hRl hRs hok p hp2 ha g (endL R K T').length ec hnl (by omega) q.ts q.sensor q.metric q.val hIe hG hrd rfl rfl rfl rfl hR hK hr hb u8 u11 u12 u13 u14 u15 u16 u17 u18 u19 u20 u21 u22 u23 u24 u25 u26 u27 u28 u29 u30 u31 u32 u33 u34 u35 u36 u37 u38 u39 u40 u41 u42 u43 u44 u45 u46 u47 u48 u49 u50 u51 u52 u53 u54 u55 u56 u57 u58 u59 u60 u61 u62 u63 u64 u65 u66 u67 u68 u69 u70 u71 u72 u73 u74 u75 u76 u77 u78 u79 u80 u81 u82 u83 u84 u85 u86 u87 u88 u89 u90 u91 u92 u93 u94 u95 u96 u97 u98 u99 u100 u101 u102 u103 u104 u105 u106 u107 u108 u109 u110 u111 u112 u113 u114 u115 u116 u117 u118 u119 u120 u121 u122 u123 u124 u125 u126 u127 u128 u129 u130 u131 u132 u133 u134 u135 u136 u137 u138 u139 u140 u141 u142 u143 u144 u145 u146 u147 u148 u149 u150 u151 u152 u153 u154 u155 u156 u157 u158 u159 u160 u161 u162 u163 u164 u165 u166 u167 u168 u169 u170 u171 u172 u173 u174 u175 u176 u177 u178 u179 u180 u181 u182 u183 u184 u185 u186 u187 u188 u189 u190 u191 u192 u193 u194 u195 u196 u197 u198 u199 u200 u201 u202 u203 u204 u205 u206 u207 u208 u209 u210 u211 u212 u213 u214 c4 c5 c6 c7 c215 c216 c217 c218 hend
      · rw [hfn] at hG hIe
        exact w30_pa1 P0 Q0 hQ0 q j _ T'.length kc tc hjn hn hn0 hkl hRl hRs hok p hp2 ha g (endL R K T').length ec hnl (by omega) K[m].lts K[m].sensor K[m].metric K[m].val hIe hG m K[m] (by simp) hrd rfl rfl rfl rfl hR hK hr hb u8 u11 u12 u13 u14 u15 u16 u17 u18 u19 u20 u21 u22 u23 u24 u25 u26 u27 u28 u29 u30 u31 u32 u33 u34 u35 u36 u37 u38 u39 u40 u41 u42 u43 u44 u45 u46 u47 u48 u49 u50 u51 u52 u53 u54 u55 u56 u57 u58 u59 u60 u61 u62 u63 u64 u65 u66 u67 u68 u69 u70 u71 u72 u73 u74 u75 u76 u77 u78 u79 u80 u81 u82 u83 u84 u85 u86 u87 u88 u89 u90 u91 u92 u93 u94 u95 u96 u97 u98 u99 u100 u101 u102 u103 u104 u105 u106 u107 u108 u109 u110 u111 u112 u113 u114 u115 u116 u117 u118 u119 u120 u121 u122 u123 u124 u125 u126 u127 u128 u129 u130 u131 u132 u133 u134 u135 u136 u137 u138 u139 u140 u141 u142 u143 u144 u145 u146 u147 u148 u149 u150 u151 u152 u153 u154 u155 u156 u157 u158 u159 u160 u161 u162 u163 u164 u165 u166 u167 u168 u169 u170 u171 u172 u173 u174 u175 u176 u177 u178 u179 u180 u181 u182 u183 u184 u185 u186 u187 u188 u189 u190 u191 u192 u193 u194 u195 u196 u197 u198 u199 u200 u201 u202 u203 u204 u205 u206 u207 u208 u209 u210 u211 u212 u213 u214 c4 c5 c6 c7 c215 c216 c217 c218 hend
    have halt := lastTo_lt (alarmAt R K p 0 q.sensor) K.length
    obtain ⟨a, ha2⟩ : ∃ a : Nat, lastTo (alarmAt R K p 0 q.sensor) K.length = a := ⟨(lastTo (alarmAt R K p 0 q.sensor) K.length).toNat, by omega⟩
    have hal : a < K.length := by omega
    have hst : (K[a].state.toList == [70, 73, 82, 73, 78, 71]) = false := by
      rw [hf, hp2, ha2, Int.toNat_natCast, getD_at K noKey a hal, decide_eq_false (by omega), decide_eq_false (by omega)] at hfT
      simpa using hfT.symm
    refine key _ (fun hrd hfn => ?_) (fun m hml hrd hfn => ?_)
    · rw [hfn] at hG hIe
      exact w30_pf0 P0 Q0 hQ0 q j _ T'.length kc tc hjn hn hn0 hkl hRl hRs hok p hp2 a K[a] (by simp) ha2 hst g (endL R K T').length ec hnl (by omega) q.ts q.sensor q.metric q.val hIe hG hrd rfl rfl rfl rfl hR hK hr hb u8 u11 u12 u13 u14 u15 u16 u17 u18 u19 u20 u21 u22 u23 u24 u25 u26 u27 u28 u29 u30 u31 u32 u33 u34 u35 u36 u37 u38 u39 u40 u41 u42 u43 u44 u45 u46 u47 u48 u49 u50 u51 u52 u53 u54 u55 u56 u57 u58 u59 u60 u61 u62 u63 u64 u65 u66 u67 u68 u69 u70 u71 u72 u73 u74 u75 u76 u77 u78 u79 u80 u81 u82 u83 u84 u85 u86 u87 u88 u89 u90 u91 u92 u93 u94 u95 u96 u97 u98 u99 u100 u101 u102 u103 u104 u105 u106 u107 u108 u109 u110 u111 u112 u113 u114 u115 u116 u117 u118 u119 u120 u121 u122 u123 u124 u125 u126 u127 u128 u129 u130 u131 u132 u133 u134 u135 u136 u137 u138 u139 u140 u141 u142 u143 u144 u145 u146 u147 u148 u149 u150 u151 u152 u153 u154 u155 u156 u157 u158 u159 u160 u161 u162 u163 u164 u165 u166 u167 u168 u169 u170 u171 u172 u173 u174 u175 u176 u177 u178 u179 u180 u181 u182 u183 u184 u185 u186 u187 u188 u189 u190 u191 u192 u193 u194 u195 u196 u197 u198 u199 u200 u201 u202 u203 u204 u205 u206 u207 u208 u209 u210 u211 u212 u213 u214 c4 c5 c6 c7 c215 c216 c217 c218 hend
    · rw [hfn] at hG hIe
      exact w30_pf1 P0 Q0 hQ0 q j _ T'.length kc tc hjn hn hn0 hkl hRl hRs hok p hp2 a K[a] (by simp) ha2 hst g (endL R K T').length ec hnl (by omega) K[m].lts K[m].sensor K[m].metric K[m].val hIe hG m K[m] (by simp) hrd rfl rfl rfl rfl hR hK hr hb u8 u11 u12 u13 u14 u15 u16 u17 u18 u19 u20 u21 u22 u23 u24 u25 u26 u27 u28 u29 u30 u31 u32 u33 u34 u35 u36 u37 u38 u39 u40 u41 u42 u43 u44 u45 u46 u47 u48 u49 u50 u51 u52 u53 u54 u55 u56 u57 u58 u59 u60 u61 u62 u63 u64 u65 u66 u67 u68 u69 u70 u71 u72 u73 u74 u75 u76 u77 u78 u79 u80 u81 u82 u83 u84 u85 u86 u87 u88 u89 u90 u91 u92 u93 u94 u95 u96 u97 u98 u99 u100 u101 u102 u103 u104 u105 u106 u107 u108 u109 u110 u111 u112 u113 u114 u115 u116 u117 u118 u119 u120 u121 u122 u123 u124 u125 u126 u127 u128 u129 u130 u131 u132 u133 u134 u135 u136 u137 u138 u139 u140 u141 u142 u143 u144 u145 u146 u147 u148 u149 u150 u151 u152 u153 u154 u155 u156 u157 u158 u159 u160 u161 u162 u163 u164 u165 u166 u167 u168 u169 u170 u171 u172 u173 u174 u175 u176 u177 u178 u179 u180 u181 u182 u183 u184 u185 u186 u187 u188 u189 u190 u191 u192 u193 u194 u195 u196 u197 u198 u199 u200 u201 u202 u203 u204 u205 u206 u207 u208 u209 u210 u211 u212 u213 u214 c4 c5 c6 c7 c215 c216 c217 c218 hend

set_option maxHeartbeats 6400000 in
set_option maxRecDepth 100000 in
theorem zzendedAgrees_any (R : List RuleD) (K : List ZK) (T' : List ZR) (rz : Nat) (ka ta ea : Option Addr) (kc tc ec : Nat) (w : World) (hR : RulesAt w rz R) (hlen : R.length ≤ 1000) (hsl : ∀ r ∈ R, r.sevs.length ≤ 1000)
    (hK : KArg w ka K) (hkl : K.length ≤ 4096) (hT : T' = [] ∨ ∃ tb o, ta = some ⟨tb, o, none⟩ ∧ RaisedAt w tb o T') (htl : T'.length ≤ 4096) (hokK : ∀ q ∈ K, ZK.Ok q) (hokT : ∀ q ∈ T', ZR.Ok q)
    (hE : endL R K T' = [] ∨ ∃ g, ea = some ⟨g, 0, none⟩ ∧ RowsAt w g 13 (teCells K) (endL R K T')) :
    Calls Try.prog 30 #[.slice (some ⟨rz, 0, none⟩) R.length R.length, .slice ka K.length kc, .slice ta T'.length tc, .slice ea (endL R K T').length ec] w fun e w' => e = .returned (.bool true) ∧ Below w.heap.size w w' := by
  have hele : (endL R K T').length ≤ T'.length := endL_le R K T'
  have HR : Hid (RulesAt w rz R) := hR
  have HK : Hid (KArg w ka K) := hK
  have HT : Hid (T' = [] ∨ ∃ tb o, ta = some ⟨tb, o, none⟩ ∧ RaisedAt w tb o T') := hT
  have HE : Hid (endL R K T' = [] ∨ ∃ g, ea = some ⟨g, 0, none⟩ ∧ RowsAt w g 13 (teCells K) (endL R K T')) := hE
  clear hR hK hT hE
  go_enter Try.func30, Try.ntmps30
  go_wp2
  go_loopw [9, 10] (fun n x wr => ∃ j : Nat, j ≤ T'.length ∧ x = .int .i64 j ∧ n = .int .i64 ((endL R K (T'.take j)).length : Nat) ∧ Below w.heap.size w wr) (fun _ x _ => T'.length - (intOf x).toNat)
  case atStart => exact ⟨0, Nat.zero_le _, rfl, rfl, Below.refl _ _⟩
  case round =>
    obtain ⟨j, hj, rfl, rfl, hb⟩ := hrel
    by_cases hjl : j < T'.length
    · rcases HT.out with h0 | ⟨tb, o, rfl, hTT⟩
      · rw [h0] at hjl; simp at hjl
      refine round30 _ _ (fun _ _ d _ _ h => by cases d <;> exact h) j kc tc ec ea hjl htl hkl hlen hsl hokK hokT ?_ (HR.out.below hb) (HK.out.below hb) (hTT.below hb) hb _ _ _ _ _ _ _ _ _ _ _ _ _ _ _ _ _ _ _ _ _ _ _ _ _ _ _ _ _ _ _ _ _ _ _ _ _ _ _ _ _ _ _ _ _ _ _ _ _ _ _ _ _ _ _ _ _ _ _ _ _ _ _ _ _ _ _ _ _ _ _ _ _ _ _ _ _ _ _ _ _ _ _ _ _ _ _ _ _ _ _ _ _ _ _ _ _ _ _ _ _ _ _ _ _ _ _ _ _ _ _ _ _ _ _ _ _ _ _ _ _ _ _ _ _ _ _ _ _ _ _ _ _ _ _ _ _ _ _ _ _ _ _ _ _ _ _ _ _ _ _ _ _ _ _ _ _ _ _ _ _ _ _ _ _ _ _ _ _ _ _ _ _ _ _ _ _ _ _ _ _ _ _ _ _ _ _ _ _ _ _ _ _ _ _ _ _ _ _ _ _ _ _ _ _ _ _ _ _ _ _ _ _ ?_
      · exact HE.out.imp id fun ⟨g, h1, h2⟩ => ⟨g, h1, h2.below hb⟩
      intro _ _ _ _ _ _ _ _ _ _ _ _ _ _ _ _ _ _ _ _ _ _ _ _ _ _ _ _ _ _ _ _ _ _ _ _ _ _ _ _ _ _ _ _ _ _ _ _ _ _ _ _ _ _ _ _ _ _ _ _ _ _ _ _ _ _ _ _ _ _ _ _ _ _ _ _ _ _ _ _ _ _ _ _ _ _ _ _ _ _ _ _ _ _ _ _ _ _ _ _ _ _ _ _ _ _ _ _ _ _ _ _ _ _ _ _ _ _ _ _ _ _ _ _ _ _ _ _ _ _ _ _ _ _ _ _ _ _ _ _ _ _ _ _ _ _ _ _ _ _ _ _ _ _ _ _ _ _ _ _ _ _ _ _ _ _ _ _ _ _ _ _ _ _ _ _ _ _ _ _ _ _ _ _ _ _ _ _ _ _ _ _ _ _ _ _ _ _ _ _ _ _ _ _ _ w' hb'
      dsimp only
      go_roundw
      case rel => exact ⟨j + 1, by omega, rfl, rfl, hb'⟩
      case measure => simp [intOf]; omega
    · have hje : j = T'.length := by omega
      subst hje
      rw [List.take_of_length_le (Nat.le_refl _)]
      go_wp2_with fail
      go_ret
      exact ⟨rfl, hb⟩
end
end Go.Proofs.Qxb6605676a.Kz
