import Derived.Test.Qxb6605676aKz33
namespace Go.Proofs.Qxb6605676a.Kz
set_option linter.unusedVariables false
set_option linter.unusedSimpArgs false
open Go.RowKit Go.Proofs.Qxb6605676a.Mp Go.Proofs.Qxb6605676a.Tm Go.Proofs.Qxb6605676a.En

section
variable {mb rb rz kb : Nat} {rs : Array Value} {R : List RuleD} {K : List ZK} {S : List ZS} {ptrs : List Nat} {w wr : World} {sb o : Nat}

set_option maxHeartbeats 6400000 in
set_option maxRecDepth 100000 in
theorem w31s_t (P0 : Act → World → Prop) (Q0 : Exit → Act → World → Prop) (hQ0 : ∀ c a d v w, Q0 (.panic c) (Act.put a d v) w → Q0 (.panic c) a w) (q : ZS) (j nl sc : Nat) (hq : S[j]? = some q) (hjn : j < S.length) (hn : S.length ≤ 4096) (hnl : nl ≤ j) (hok : I64 q.last) (hla : lastTo (serAt S q.sensor q.metric) S.length = j)
    (hEI : Hid (EngIs mb rb rz kb rs R K S ptrs wr)) (hSr : Hid (SeriesAt wr sb o S)) (hb : Hid (Below w.heap.size w wr)) (u8 u33 u34 u35 u36 u37 u220 u221 u222 u223 u224 u225 u226 u227 u228 u229 u230 u231 u232 u233 u234 u235 u236 u237 u238 u239 u240 u241 u242 u243 u244 u245 u246 u247 u248 u249 u250 u251 u252 u253 u254 u255 u256 u257 u258 u259 u260 u261 u262 u263 u264 u265 u266 u267 u268 u269 u270 u271 u272 u273 u274 u275 u276 u277 u278 u279 u280 u281 u282 u283 u284 u285 c0 c1 c4 c5 c6 c7 c9 c10 c11 c12 c13 c14 c15 c17 c18 c19 c20 c21 c22 c23 c24 c25 c26 c27 c28 c29 c30 c31 c38 c39 c40 c41 c42 c43 c44 c45 c46 c47 c48 c49 c50 c51 c52 c53 c54 c55 c56 c57 c58 c59 c60 c61 c62 c63 c64 c65 c66 c67 c68 c69 c70 c71 c72 c73 c74 c75 c76 c77 c78 c79 c80 c81 c82 c83 c84 c85 c86 c87 c88 c89 c90 c91 c92 c93 c94 c95 c96 c97 c98 c99 c100 c101 c102 c103 c104 c105 c106 c107 c108 c109 c110 c111 c112 c113 c114 c115 c116 c117 c118 c119 c120 c121 c122 c123 c124 c125 c126 c127 c128 c129 c130 c131 c132 c133 c134 c135 c136 c137 c138 c139 c140 c141 c142 c143 c144 c145 c146 c147 c148 c149 c150 c151 c152 c153 c154 c155 c156 c157 c158 c159 c160 c161 c162 c163 c164 c165 c166 c167 c168 c169 c170 c171 c172 c173 c174 c175 c176 c177 c178 c179 c180 c181 c182 c183 c184 c185 c186 c187 c188 c189 c190 c191 c192 c193 c194 c195 c196 c197 c198 c199 c200 c201 c202 c203 c204 c205 c206 c207 c208 c209 c210 c211 c212 c213 c214 c215 c216 c217 c218 c219 c286 c287 c288 c289 c290 c291 c292 c293 c294 c295 c296 c297 c298 c299 c300 c301 c302 c303 c304 c305 c306 : Value)
    (hend : ∀ (v8 v33 v34 v35 v36 v37 v220 v221 v222 v223 v224 v225 v226 v227 v228 v229 v230 v231 v232 v233 v234 v235 v236 v237 v238 v239 v240 v241 v242 v243 v244 v245 v246 v247 v248 v249 v250 v251 v252 v253 v254 v255 v256 v257 v258 v259 v260 v261 v262 v263 v264 v265 v266 v267 v268 v269 v270 v271 v272 v273 v274 v275 v276 v277 v278 v279 v280 v281 v282 v283 v284 v285 : Value) (w' : World), Below w.heap.size w w' → P0 ⟨#[c0, c1, .slice (some ⟨sb, o, none⟩) S.length sc, .pointer (some ⟨mb + 5, 0, none⟩), c4, c5, c6, c7, v8, c9, c10, c11, c12, c13, c14, c15, .int .i64 ((nl + 1 : Nat) : Int), c17, c18, c19, c20, c21, c22, c23, c24, c25, c26, c27, c28, c29, c30, c31, .int .i64 ((j + 1 : Nat) : Int), v33, v34, v35, v36, v37, c38, c39, c40, c41, c42, c43, c44, c45, c46, c47, c48, c49, c50, c51, c52, c53, c54, c55, c56, c57, c58, c59, c60, c61, c62, c63, c64, c65, c66, c67, c68, c69, c70, c71, c72, c73, c74, c75, c76, c77, c78, c79, c80, c81, c82, c83, c84, c85, c86, c87, c88, c89, c90, c91, c92, c93, c94, c95, c96, c97, c98, c99, c100, c101, c102, c103, c104, c105, c106, c107, c108, c109, c110, c111, c112, c113, c114, c115, c116, c117, c118, c119, c120, c121, c122, c123, c124, c125, c126, c127, c128, c129, c130, c131, c132, c133, c134, c135, c136, c137, c138, c139, c140, c141, c142, c143, c144, c145, c146, c147, c148, c149, c150, c151, c152, c153, c154, c155, c156, c157, c158, c159, c160, c161, c162, c163, c164, c165, c166, c167, c168, c169, c170, c171, c172, c173, c174, c175, c176, c177, c178, c179, c180, c181, c182, c183, c184, c185, c186, c187, c188, c189, c190, c191, c192, c193, c194, c195, c196, c197, c198, c199, c200, c201, c202, c203, c204, c205, c206, c207, c208, c209, c210, c211, c212, c213, c214, c215, c216, c217, c218, c219, v220, v221, v222, v223, v224, v225, v226, v227, v228, v229, v230, v231, v232, v233, v234, v235, v236, v237, v238, v239, v240, v241, v242, v243, v244, v245, v246, v247, v248, v249, v250, v251, v252, v253, v254, v255, v256, v257, v258, v259, v260, v261, v262, v263, v264, v265, v266, v267, v268, v269, v270, v271, v272, v273, v274, v275, v276, v277, v278, v279, v280, v281, v282, v283, v284, v285, c286, c287, c288, c289, c290, c291, c292, c293, c294, c295, c296, c297, c298, c299, c300, c301, c302, c303, c304, c305, c306], []⟩ w') :
    Code.wp Try.prog body31b (Exit.then P0 Q0) ⟨#[c0, c1, .slice (some ⟨sb, o, none⟩) S.length sc, .pointer (some ⟨mb + 5, 0, none⟩), c4, c5, c6, c7, u8, c9, c10, c11, c12, c13, c14, c15, .int .i64 nl, c17, c18, c19, c20, c21, c22, c23, c24, c25, c26, c27, c28, c29, c30, c31, .int .i64 j, u33, u34, u35, u36, u37, c38, c39, c40, c41, c42, c43, c44, c45, c46, c47, c48, c49, c50, c51, c52, c53, c54, c55, c56, c57, c58, c59, c60, c61, c62, c63, c64, c65, c66, c67, c68, c69, c70, c71, c72, c73, c74, c75, c76, c77, c78, c79, c80, c81, c82, c83, c84, c85, c86, c87, c88, c89, c90, c91, c92, c93, c94, c95, c96, c97, c98, c99, c100, c101, c102, c103, c104, c105, c106, c107, c108, c109, c110, c111, c112, c113, c114, c115, c116, c117, c118, c119, c120, c121, c122, c123, c124, c125, c126, c127, c128, c129, c130, c131, c132, c133, c134, c135, c136, c137, c138, c139, c140, c141, c142, c143, c144, c145, c146, c147, c148, c149, c150, c151, c152, c153, c154, c155, c156, c157, c158, c159, c160, c161, c162, c163, c164, c165, c166, c167, c168, c169, c170, c171, c172, c173, c174, c175, c176, c177, c178, c179, c180, c181, c182, c183, c184, c185, c186, c187, c188, c189, c190, c191, c192, c193, c194, c195, c196, c197, c198, c199, c200, c201, c202, c203, c204, c205, c206, c207, c208, c209, c210, c211, c212, c213, c214, c215, c216, c217, c218, c219, u220, u221, u222, u223, u224, u225, u226, u227, u228, u229, u230, u231, u232, u233, u234, u235, u236, u237, u238, u239, u240, u241, u242, u243, u244, u245, u246, u247, u248, u249, u250, u251, u252, u253, u254, u255, u256, u257, u258, u259, u260, u261, u262, u263, u264, u265, u266, u267, u268, u269, u270, u271, u272, u273, u274, u275, u276, u277, u278, u279, u280, u281, u282, u283, u284, u285, c286, c287, c288, c289, c290, c291, c292, c293, c294, c295, c296, c297, c298, c299, c300, c301, c302, c303, c304, c305, c306], []⟩ wr := by
  conv => arg 2; whnf
  have hr0 : wr.rangeAt sb (o + j * 3) (zsCells q) := by
    obtain ⟨hj, rfl⟩ := List.getElem?_eq_some_iff.1 hq
    exact hSr.out.range j hj
  have HR0 : Hid (wr.rangeAt sb (o + j * 3) (zsCells q)) := hr0
  clear hr0
  obtain ⟨V, rfl⟩ : ∃ V, V = wr := ⟨_, rfl⟩
  have HEND : Hid (∀ (v8 v33 v34 v35 v36 v37 v220 v221 v222 v223 v224 v225 v226 v227 v228 v229 v230 v231 v232 v233 v234 v235 v236 v237 v238 v239 v240 v241 v242 v243 v244 v245 v246 v247 v248 v249 v250 v251 v252 v253 v254 v255 v256 v257 v258 v259 v260 v261 v262 v263 v264 v265 v266 v267 v268 v269 v270 v271 v272 v273 v274 v275 v276 v277 v278 v279 v280 v281 v282 v283 v284 v285 : Value) (w' : World), Below w.heap.size w w' → P0 ⟨#[c0, c1, .slice (some ⟨sb, o, none⟩) S.length sc, .pointer (some ⟨mb + 5, 0, none⟩), c4, c5, c6, c7, v8, c9, c10, c11, c12, c13, c14, c15, .int .i64 ((nl + 1 : Nat) : Int), c17, c18, c19, c20, c21, c22, c23, c24, c25, c26, c27, c28, c29, c30, c31, .int .i64 ((j + 1 : Nat) : Int), v33, v34, v35, v36, v37, c38, c39, c40, c41, c42, c43, c44, c45, c46, c47, c48, c49, c50, c51, c52, c53, c54, c55, c56, c57, c58, c59, c60, c61, c62, c63, c64, c65, c66, c67, c68, c69, c70, c71, c72, c73, c74, c75, c76, c77, c78, c79, c80, c81, c82, c83, c84, c85, c86, c87, c88, c89, c90, c91, c92, c93, c94, c95, c96, c97, c98, c99, c100, c101, c102, c103, c104, c105, c106, c107, c108, c109, c110, c111, c112, c113, c114, c115, c116, c117, c118, c119, c120, c121, c122, c123, c124, c125, c126, c127, c128, c129, c130, c131, c132, c133, c134, c135, c136, c137, c138, c139, c140, c141, c142, c143, c144, c145, c146, c147, c148, c149, c150, c151, c152, c153, c154, c155, c156, c157, c158, c159, c160, c161, c162, c163, c164, c165, c166, c167, c168, c169, c170, c171, c172, c173, c174, c175, c176, c177, c178, c179, c180, c181, c182, c183, c184, c185, c186, c187, c188, c189, c190, c191, c192, c193, c194, c195, c196, c197, c198, c199, c200, c201, c202, c203, c204, c205, c206, c207, c208, c209, c210, c211, c212, c213, c214, c215, c216, c217, c218, c219, v220, v221, v222, v223, v224, v225, v226, v227, v228, v229, v230, v231, v232, v233, v234, v235, v236, v237, v238, v239, v240, v241, v242, v243, v244, v245, v246, v247, v248, v249, v250, v251, v252, v253, v254, v255, v256, v257, v258, v259, v260, v261, v262, v263, v264, v265, v266, v267, v268, v269, v270, v271, v272, v273, v274, v275, v276, v277, v278, v279, v280, v281, v282, v283, v284, v285, c286, c287, c288, c289, c290, c291, c292, c293, c294, c295, c296, c297, c298, c299, c300, c301, c302, c303, c304, c305, c306], []⟩ w') := hend
  clear hend
  go_wp2_with fail
  go_loopw [34, 35] (fun b x wr2 => ∃ k : Nat, j < k ∧ k ≤ S.length ∧ b = .bool true ∧ x = .int .i64 k ∧ Below V.heap.size V wr2) (fun _ x _ => S.length - (intOf x).toNat)
  case atStart => exact ⟨j + 1, by omega, by omega, rfl, by go_num, Below.refl _ _⟩
  case round =>
    obtain ⟨k, hjk, hk, rfl, rfl, hb2⟩ := hrel
    by_cases hkk : k < S.length
    · have hr2 : wr.rangeAt sb (o + k * 3) (zsCells S[k]) := (hSr.out.below hb2).range k hkk
      have hns : serAt S q.sensor q.metric k = false := by
        cases h : serAt S q.sensor q.metric k with
        | false => rfl
        | true => have := lastTo_max (serAt S q.sensor q.metric) S.length k hkk h; omega
      unfold serAt at hns
      rw [getD_at S noSer k hkk] at hns
      generalize S[k] = z at *
      obtain ⟨g0, g1, g2⟩ := zsR hr2
      obtain ⟨f0, f1, f2⟩ := zsR (range_below HR0.out hb2)
      have HNS : Hid ((z.sensor.toList == q.sensor.toList && z.metric.toList == q.metric.toList) = false) := hns
      clear hr2 hns
      cases hs : (z.sensor.toList == q.sensor.toList)
      · have hs' : ¬ z.sensor.toList = q.sensor.toList := by simpa using hs
        go_wp2
        go_quiet (fail)
        go_wp2
        exact ⟨⟨k + 1, by omega, by omega, rfl, by go_num, below_drewN hb2 _⟩, by simp [intOf]; omega⟩
      · have hs' : z.sensor.toList = q.sensor.toList := by simpa using hs
        have hmt : (z.metric.toList == q.metric.toList) = false := by have := HNS.out; rw [hs] at this; simpa using this
        have hmt' : ¬ z.metric.toList = q.metric.toList := by simpa using hmt
        go_wp2
        go_quiet (fail)
        go_wp2
        exact ⟨⟨k + 1, by omega, by omega, rfl, by go_num, below_drewN hb2 _⟩, by simp [intOf]; omega⟩
    · have HR3 : Hid (wr.rangeAt sb (o + j * 3) (zsCells q)) := range_below HR0.out hb2
      have HE3 := EngIs.hb hb2 hEI
      have HB3 : Hid (Below w.heap.size w wr) := Below.step hb.out hb2
      obtain ⟨f0, f1, f2⟩ := zsR HR3.out
      have HQ : Hid (S[j]? = some q) := hq
      have HL : Hid (lastTo (serAt S q.sensor q.metric) S.length = j) := hla
      clear hla hq hb2 hb hEI hSr HR0
      go_wp2_with fail
      refine wp_region_held_drew (S := (fun W => W.rangeAt sb (o + j * 3) (zsCells q))) (by kernel_rfl) HR3.out (fun hHeld => ?_)
      refine wpAnyH_take (i := 0) (v := ?_) rfl (by kernel_rfl) (by kernel_rfl) (by kernel_rfl) (fun c a w h => hQ0 c a _ _ w h) (Or.inl ⟨by rfl, ?_⟩) hHeld ?_
      rotate_left
      · intro w0 hSw; (try dsimp only at hSw); obtain ⟨f0, f1, f2⟩ := zsR hSw; go_simp <;> with_reducible rfl
      try simp only [Act.put, List.getElem_toArray, List.getElem_cons_zero, List.getElem_cons_succ, List.setIfInBounds_toArray, List.set_cons_zero, List.set_cons_succ]
      refine wpAnyH_take (i := 1) (v := ?_) rfl (by kernel_rfl) (by kernel_rfl) (by kernel_rfl) (fun c a w h => hQ0 c a _ _ w h) (Or.inl ⟨by rfl, ?_⟩) hHeld ?_
      rotate_left
      · intro w0 hSw; (try dsimp only at hSw); obtain ⟨f0, f1, f2⟩ := zsR hSw; go_simp <;> with_reducible rfl
      try simp only [Act.put, List.getElem_toArray, List.getElem_cons_zero, List.getElem_cons_succ, List.setIfInBounds_toArray, List.set_cons_zero, List.set_cons_succ]
      refine wpAnyH_take (i := 2) (v := ?_) rfl (by kernel_rfl) (by kernel_rfl) (by kernel_rfl) (fun c a w h => hQ0 c a _ _ w h) (Or.inl ⟨by rfl, ?_⟩) hHeld ?_
      rotate_left
      · intro w0 hSw; (try dsimp only at hSw); obtain ⟨f0, f1, f2⟩ := zsR hSw; go_simp <;> with_reducible rfl
      try simp only [Act.put, List.getElem_toArray, List.getElem_cons_zero, List.getElem_cons_succ, List.setIfInBounds_toArray, List.set_cons_zero, List.set_cons_succ]
      refine wpAnyH_take (i := 3) (v := ?_) rfl (by kernel_rfl) (by kernel_rfl) (by kernel_rfl) (fun c a w h => hQ0 c a _ _ w h) (Or.inl ⟨by rfl, ?_⟩) hHeld ?_
      rotate_left
      · intro w0 hSw; (try dsimp only at hSw); obtain ⟨f0, f1, f2⟩ := zsR hSw; go_simp <;> with_reducible rfl
      try simp only [Act.put, List.getElem_toArray, List.getElem_cons_zero, List.getElem_cons_succ, List.setIfInBounds_toArray, List.set_cons_zero, List.set_cons_succ]
      refine wpAnyH_take (i := 4) (v := ?_) rfl (by kernel_rfl) (by kernel_rfl) (by kernel_rfl) (fun c a w h => hQ0 c a _ _ w h) (Or.inl ⟨by rfl, ?_⟩) hHeld ?_
      rotate_left
      · intro w0 hSw; (try dsimp only at hSw); obtain ⟨f0, f1, f2⟩ := zsR hSw; go_simp <;> with_reducible rfl
      try simp only [Act.put, List.getElem_toArray, List.getElem_cons_zero, List.getElem_cons_succ, List.setIfInBounds_toArray, List.set_cons_zero, List.set_cons_succ]
      refine wpAnyH_take (i := 5) (v := ?_) rfl (by kernel_rfl) (by kernel_rfl) (by kernel_rfl) (fun c a w h => hQ0 c a _ _ w h) (Or.inl ⟨by rfl, ?_⟩) hHeld ?_
      rotate_left
      · intro w0 hSw; (try dsimp only at hSw); obtain ⟨f0, f1, f2⟩ := zsR hSw; go_simp <;> with_reducible rfl
      try simp only [Act.put, List.getElem_toArray, List.getElem_cons_zero, List.getElem_cons_succ, List.setIfInBounds_toArray, List.set_cons_zero, List.set_cons_succ]
      refine wpAnyH_take (i := 6) (v := ?_) rfl (by kernel_rfl) (by kernel_rfl) (by kernel_rfl) (fun c a w h => hQ0 c a _ _ w h) (Or.inl ⟨by rfl, ?_⟩) hHeld ?_
      rotate_left
      · intro w0 hSw; (try dsimp only at hSw); obtain ⟨f0, f1, f2⟩ := zsR hSw; go_simp <;> with_reducible rfl
      try simp only [Act.put, List.getElem_toArray, List.getElem_cons_zero, List.getElem_cons_succ, List.setIfInBounds_toArray, List.set_cons_zero, List.set_cons_succ]
      refine wpAnyH_take (i := 7) (v := ?_) rfl (by kernel_rfl) (by kernel_rfl) (by kernel_rfl) (fun c a w h => hQ0 c a _ _ w h) (Or.inl ⟨by rfl, ?_⟩) hHeld ?_
      rotate_left
      · intro w0 hSw; (try dsimp only at hSw); obtain ⟨f0, f1, f2⟩ := zsR hSw; go_simp <;> with_reducible rfl
      try simp only [Act.put, List.getElem_toArray, List.getElem_cons_zero, List.getElem_cons_succ, List.setIfInBounds_toArray, List.set_cons_zero, List.set_cons_succ]
      refine wpAnyH_take (i := 8) (v := ?_) rfl (by kernel_rfl) (by kernel_rfl) (by kernel_rfl) (fun c a w h => hQ0 c a _ _ w h) (Or.inl ⟨by rfl, ?_⟩) hHeld ?_
      rotate_left
      · intro w0 hSw; (try dsimp only at hSw); obtain ⟨f0, f1, f2⟩ := zsR hSw; go_simp <;> with_reducible rfl
      try simp only [Act.put, List.getElem_toArray, List.getElem_cons_zero, List.getElem_cons_succ, List.setIfInBounds_toArray, List.set_cons_zero, List.set_cons_succ]
      refine wpAnyH_ready (rs := [9]) (by kernel_rfl) (by simp) ?_
      refine AllReadyH.cons rfl (fun K0 hK0 => ?_) AllReadyH.nil
      rw [if_pos (by simp [Region.wanted])]
      go_simp
      refine (EngIs.lastAt (HE3.out.below below_drew) HQ.out hok HL.out).mono ?_
      rintro e c0 ⟨rfl, bc0⟩
      have bc0' : Below wr.heap.size wr c0 := ⟨bc0.os, bc0.tape, bc0.output, bc0.size, bc0.block⟩
      have HR4 : Hid (c0.rangeAt sb (o + j * 3) (zsCells q)) := range_below HR3.out bc0'
      refine hK0.out _ _ HR4.out (fun hHeld => ?_)
      clear hK0 K0
      try simp only [Act.put, List.getElem_toArray, List.getElem_cons_zero, List.getElem_cons_succ, List.setIfInBounds_toArray, List.set_cons_zero, List.set_cons_succ]
      refine wpAnyH_take (i := 10) (v := ?_) rfl (by kernel_rfl) (by kernel_rfl) (by kernel_rfl) (fun c a w h => hQ0 c a _ _ w h) (Or.inl ⟨by rfl, ?_⟩) hHeld ?_
      rotate_left
      · intro w0 hSw; (try dsimp only at hSw); obtain ⟨f0, f1, f2⟩ := zsR hSw; go_simp <;> with_reducible rfl
      try simp only [Act.put, List.getElem_toArray, List.getElem_cons_zero, List.getElem_cons_succ, List.setIfInBounds_toArray, List.set_cons_zero, List.set_cons_succ]
      refine wpAnyH_take (i := 11) (v := ?_) rfl (by kernel_rfl) (by kernel_rfl) (by kernel_rfl) (fun c a w h => hQ0 c a _ _ w h) (Or.inl ⟨by rfl, ?_⟩) hHeld ?_
      rotate_left
      · intro w0 hSw; (try dsimp only at hSw); obtain ⟨f0, f1, f2⟩ := zsR hSw; go_simp <;> with_reducible rfl
      try simp only [Act.put, List.getElem_toArray, List.getElem_cons_zero, List.getElem_cons_succ, List.setIfInBounds_toArray, List.set_cons_zero, List.set_cons_succ]
      refine wpAnyH_take (i := 12) (v := ?_) rfl (by kernel_rfl) (by kernel_rfl) (by kernel_rfl) (fun c a w h => hQ0 c a _ _ w h) (Or.inl ⟨by rfl, ?_⟩) hHeld ?_
      rotate_left
      · intro w0 hSw; (try dsimp only at hSw); obtain ⟨f0, f1, f2⟩ := zsR hSw; go_simp <;> with_reducible rfl
      try simp only [Act.put, List.getElem_toArray, List.getElem_cons_zero, List.getElem_cons_succ, List.setIfInBounds_toArray, List.set_cons_zero, List.set_cons_succ]
      refine wpAnyH_take (i := 13) (v := ?_) rfl (by kernel_rfl) (by kernel_rfl) (by kernel_rfl) (fun c a w h => hQ0 c a _ _ w h) (Or.inl ⟨by rfl, ?_⟩) hHeld ?_
      rotate_left
      · intro w0 hSw; (try dsimp only at hSw); obtain ⟨f0, f1, f2⟩ := zsR hSw; go_simp <;> with_reducible rfl
      try simp only [Act.put, List.getElem_toArray, List.getElem_cons_zero, List.getElem_cons_succ, List.setIfInBounds_toArray, List.set_cons_zero, List.set_cons_succ]
      refine wpAnyH_take (i := 14) (v := ?_) rfl (by kernel_rfl) (by kernel_rfl) (by kernel_rfl) (fun c a w h => hQ0 c a _ _ w h) (Or.inl ⟨by rfl, ?_⟩) hHeld ?_
      rotate_left
      · intro w0 hSw; (try dsimp only at hSw); obtain ⟨f0, f1, f2⟩ := zsR hSw; go_simp <;> with_reducible rfl
      try simp only [Act.put, List.getElem_toArray, List.getElem_cons_zero, List.getElem_cons_succ, List.setIfInBounds_toArray, List.set_cons_zero, List.set_cons_succ]
      refine wpAnyH_done (by kernel_rfl) ?_ _
      clear f0 f1 f2
      obtain ⟨f0, f1, f2⟩ := zsR HR4.out
      go_wp2_with fail
      first | exact Below.step HB3.out bc0' | exact HEND.out _ _ _ _ _ _ _ _ _ _ _ _ _ _ _ _ _ _ _ _ _ _ _ _ _ _ _ _ _ _ _ _ _ _ _ _ _ _ _ _ _ _ _ _ _ _ _ _ _ _ _ _ _ _ _ _ _ _ _ _ _ _ _ _ _ _ _ _ _ _ _ _ _ (Below.step HB3.out bc0')

end
end Go.Proofs.Qxb6605676a.Kz
