import Derived.Test.Qxb6605676aK8f
import Derived.Test.Qxb6605676aK8n
import Derived.Test.Qxb6605676aKz46
import Derived.Test.Qxb6605676aKz37
namespace Go.Proofs.Qxb6605676a.Kz
set_option linter.unusedVariables false
set_option linter.unusedSimpArgs false
open Go.RowKit Go.Proofs.Qxb6605676a.Mp Go.Proofs.Qxb6605676a.Tm Go.Proofs.Qxb6605676a.En

section
variable {tb o ga : Nat} {D : List AcR} {w wr : World} {R : List RuleD} {K : List ZK} {T' : List ZR}

set_option maxRecDepth 100000 in
theorem round6 (P0 : Act → World → Prop) (Q0 : Exit → Act → World → Prop) (hQ0 : ∀ c a d v w, Q0 (.panic c) (Act.put a d v) w → Q0 (.panic c) a w) (j tc ca ec : Nat) (ea : Option Addr) (hjn : j < T'.length) (hn : T'.length ≤ 4096) (hD : D.length ≤ 4096) (hokT : ∀ q ∈ T', ZR.Ok q)
    (hfi : ∀ t : ZR, (∃ a ∈ D, a.rule.toList = t.rule.toList ∧ a.sensor.toList = t.sensor.toList ∧ a.state.toList = [70, 73, 82, 73, 78, 71]) ↔ firT R K t = true)
    (hE : endL R K T' = [] ∨ ∃ g, ea = some ⟨g, 0, none⟩ ∧ RowsAt wr g 13 (teCells K) (endL R K T'))
    (hA : Hid (RowsAt wr ga 12 acCells D)) (hT : RaisedAt wr tb o T') (hb : Hid (Below w.heap.size w wr)) (u14 u21 u22 u23 u24 u88 u89 u90 u91 u92 u93 u94 u95 u96 u97 u98 u99 u100 u101 u102 u103 u104 u105 u106 u107 u108 u109 u110 u111 u112 u113 u114 u115 u116 u117 u118 u119 u120 u121 u122 u123 u124 u125 u126 u127 u128 u129 u130 u131 u132 u133 u134 u135 u136 u137 u138 u139 u140 u141 u142 u143 u144 u145 u146 u147 u148 u149 u150 u151 u152 u153 u154 u155 u156 u157 u158 u159 u160 u161 u162 u163 u164 u165 u166 u167 u168 u169 u170 u171 u172 u173 u174 u175 u176 u177 u178 u179 u180 u181 u182 c0 c1 c2 c3 c4 c5 c7 c8 c9 c10 c11 c12 c13 c15 c16 c25 c26 c27 c28 c29 c30 c31 c32 c33 c34 c35 c36 c37 c38 c39 c40 c41 c42 c43 c44 c45 c46 c47 c48 c49 c50 c51 c52 c53 c54 c55 c56 c57 c58 c59 c60 c61 c62 c63 c64 c65 c66 c67 c68 c69 c70 c71 c72 c73 c74 c75 c76 c77 c78 c79 c80 c81 c82 c83 c84 c85 c86 c87 c183 c184 c185 c186 : Value)
    (hend : ∀ (v14 v21 v22 v23 v24 v88 v89 v90 v91 v92 v93 v94 v95 v96 v97 v98 v99 v100 v101 v102 v103 v104 v105 v106 v107 v108 v109 v110 v111 v112 v113 v114 v115 v116 v117 v118 v119 v120 v121 v122 v123 v124 v125 v126 v127 v128 v129 v130 v131 v132 v133 v134 v135 v136 v137 v138 v139 v140 v141 v142 v143 v144 v145 v146 v147 v148 v149 v150 v151 v152 v153 v154 v155 v156 v157 v158 v159 v160 v161 v162 v163 v164 v165 v166 v167 v168 v169 v170 v171 v172 v173 v174 v175 v176 v177 v178 v179 v180 v181 v182 : Value) (w' : World), Below w.heap.size w w' → P0 ⟨#[c0, c1, c2, c3, c4, c5, .slice (some ⟨tb, o, none⟩) T'.length tc, c7, c8, c9, c10, c11, c12, c13, v14, c15, c16, .slice ea (endL R K T').length ec, .slice (some ⟨ga, 0, none⟩) D.length ca, .int .i64 ((endL R K (T'.take (j + 1))).length : Nat), .int .i64 ((j + 1 : Nat) : Int), v21, v22, v23, v24, c25, c26, c27, c28, c29, c30, c31, c32, c33, c34, c35, c36, c37, c38, c39, c40, c41, c42, c43, c44, c45, c46, c47, c48, c49, c50, c51, c52, c53, c54, c55, c56, c57, c58, c59, c60, c61, c62, c63, c64, c65, c66, c67, c68, c69, c70, c71, c72, c73, c74, c75, c76, c77, c78, c79, c80, c81, c82, c83, c84, c85, c86, c87, v88, v89, v90, v91, v92, v93, v94, v95, v96, v97, v98, v99, v100, v101, v102, v103, v104, v105, v106, v107, v108, v109, v110, v111, v112, v113, v114, v115, v116, v117, v118, v119, v120, v121, v122, v123, v124, v125, v126, v127, v128, v129, v130, v131, v132, v133, v134, v135, v136, v137, v138, v139, v140, v141, v142, v143, v144, v145, v146, v147, v148, v149, v150, v151, v152, v153, v154, v155, v156, v157, v158, v159, v160, v161, v162, v163, v164, v165, v166, v167, v168, v169, v170, v171, v172, v173, v174, v175, v176, v177, v178, v179, v180, v181, v182, c183, c184, c185, c186], []⟩ w') :
    Code.wp Try.prog body6 (Exit.then P0 Q0) ⟨#[c0, c1, c2, c3, c4, c5, .slice (some ⟨tb, o, none⟩) T'.length tc, c7, c8, c9, c10, c11, c12, c13, u14, c15, c16, .slice ea (endL R K T').length ec, .slice (some ⟨ga, 0, none⟩) D.length ca, .int .i64 ((endL R K (T'.take j)).length : Nat), .int .i64 j, u21, u22, u23, u24, c25, c26, c27, c28, c29, c30, c31, c32, c33, c34, c35, c36, c37, c38, c39, c40, c41, c42, c43, c44, c45, c46, c47, c48, c49, c50, c51, c52, c53, c54, c55, c56, c57, c58, c59, c60, c61, c62, c63, c64, c65, c66, c67, c68, c69, c70, c71, c72, c73, c74, c75, c76, c77, c78, c79, c80, c81, c82, c83, c84, c85, c86, c87, u88, u89, u90, u91, u92, u93, u94, u95, u96, u97, u98, u99, u100, u101, u102, u103, u104, u105, u106, u107, u108, u109, u110, u111, u112, u113, u114, u115, u116, u117, u118, u119, u120, u121, u122, u123, u124, u125, u126, u127, u128, u129, u130, u131, u132, u133, u134, u135, u136, u137, u138, u139, u140, u141, u142, u143, u144, u145, u146, u147, u148, u149, u150, u151, u152, u153, u154, u155, u156, u157, u158, u159, u160, u161, u162, u163, u164, u165, u166, u167, u168, u169, u170, u171, u172, u173, u174, u175, u176, u177, u178, u179, u180, u181, u182, c183, c184, c185, c186], []⟩ wr := by
  have hsu := endL_snoc R K T' j hjn
  have hat := endL_at R K T' j hjn
  have hok := hokT T'[j] (List.getElem_mem hjn)
  have hr : Hid (wr.rangeAt tb (o + j * 7) (zrCells T'[j])) := hT.range j hjn
  have hn0 : (endL R K (T'.take j)).length ≤ j := Nat.le_trans (endL_le R K _) (by simp; omega)
  have hele : (endL R K T').length ≤ T'.length := endL_le R K T'
  have hfq := hfi T'[j]
  generalize T'[j] = q at *
  cases hf : firT R K q with
  | true =>
    rw [hsu, hf, if_pos rfl, List.append_nil] at hend
    obtain ⟨a, ha, h1, h2, h3⟩ := hfq.2 hf
    obtain ⟨m, hm, rfl⟩ := List.getElem_of_mem ha
    exact w6_f P0 Q0 hQ0 q j _ T'.length D.length tc ca hjn hn hn0 rfl hD hok m hm D[m] (by simp [hm]) (by rw [h1, h2, h3]; simp) hA hr hb u14 u21 u22 u23 u24 u88 u89 u90 u91 u92 u93 u94 u95 u96 u97 u98 u99 u100 u101 u102 u103 u104 u105 u106 u107 u108 u109 u110 u111 u112 u113 u114 u115 u116 u117 u118 u119 u120 u121 u122 u123 u124 u125 u126 u127 u128 u129 u130 u131 u132 u133 u134 u135 u136 u137 u138 u139 u140 u141 u142 u143 u144 u145 u146 u147 u148 u149 u150 u151 u152 u153 u154 u155 u156 u157 u158 u159 u160 u161 u162 u163 u164 u165 u166 u167 u168 u169 u170 u171 u172 u173 u174 u175 u176 u177 u178 u179 u180 u181 u182 _ _ _ _ _ _ _ _ _ _ _ _ _ _ _ _ _ _ _ _ _ _ _ _ _ _ _ _ _ _ _ _ _ _ _ _ _ _ _ _ _ _ _ _ _ _ _ _ _ _ _ _ _ _ _ _ _ _ _ _ _ _ _ _ _ _ _ _ _ _ _ _ _ _ _ _ _ _ _ _ _ _ _ hend
  | false =>
    rw [hsu, hf, if_neg (by simp), List.length_append, List.length_singleton] at hend
    have hat := hat hf
    have hnl : (endL R K (T'.take j)).length < (endL R K T').length := (List.getElem?_eq_some_iff.1 hat).1
    rcases hE with h0 | ⟨g, rfl, hE⟩
    · rw [h0] at hnl; simp at hnl
    have hG : Hid (wr.rangeAt g ((endL R K (T'.take j)).length * 13) (teCells K q)) := hE _ _ hat
    rw [te_fin] at hG
    have hnf : Hid (∀ a ∈ D, (a.rule.toList == q.rule.toList && a.sensor.toList == q.sensor.toList && a.state.toList == [70, 73, 82, 73, 78, 71]) = false) := by
      intro a ha
      cases hc : (a.rule.toList == q.rule.toList && a.sensor.toList == q.sensor.toList && a.state.toList == [70, 73, 82, 73, 78, 71]) with
      | false => rfl
      | true =>
        exfalso
        simp only [Bool.and_eq_true, beq_iff_eq] at hc
        have := hfq.1 ⟨a, ha, hc.1.1, hc.1.2, hc.2⟩
        rw [hf] at this
        cases this
    exact w6_n P0 Q0 hQ0 q j _ T'.length D.length tc ca hjn hn hn0 rfl hD hok hnf g (endL R K T').length ec hnl (by omega) _ _ _ _ hG hA hr hb u14 u21 u22 u23 u24 u88 u89 u90 u91 u92 u93 u94 u95 u96 u97 u98 u99 u100 u101 u102 u103 u104 u105 u106 u107 u108 u109 u110 u111 u112 u113 u114 u115 u116 u117 u118 u119 u120 u121 u122 u123 u124 u125 u126 u127 u128 u129 u130 u131 u132 u133 u134 u135 u136 u137 u138 u139 u140 u141 u142 u143 u144 u145 u146 u147 u148 u149 u150 u151 u152 u153 u154 u155 u156 u157 u158 u159 u160 u161 u162 u163 u164 u165 u166 u167 u168 u169 u170 u171 u172 u173 u174 u175 u176 u177 u178 u179 u180 u181 u182 c0 c1 c2 c3 c4 c5 c7 c8 c9 c10 c11 c12 c13 c15 c16 c25 c26 c27 c28 c29 c30 c31 c32 c33 c34 c35 c36 c37 c38 c39 c40 c41 c42 c43 c44 c45 c46 c47 c48 c49 c50 c51 c52 c53 c54 c55 c56 c57 c58 c59 c60 c61 c62 c63 c64 c65 c66 c67 c68 c69 c70 c71 c72 c73 c74 c75 c76 c77 c78 c79 c80 c81 c82 c83 c84 c85 c86 c87 c183 c184 c185 c186 hend
end
end Go.Proofs.Qxb6605676a.Kz
