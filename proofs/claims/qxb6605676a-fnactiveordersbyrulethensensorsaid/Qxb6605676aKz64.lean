import Derived.Test.Qxb6605676aKz63
import Derived.Test.Qxb6605676aK9ok
import Derived.Test.Qxb6605676aK9un
import Derived.Test.Qxb6605676aK9s1
import Derived.Test.Qxb6605676aK9s0
import Derived.Test.Qxb6605676aK10f
import Derived.Test.Qxb6605676aK10n
import Derived.Test.Qxb6605676aK11
namespace Go.Proofs.Qxb6605676a.Kz
set_option linter.unusedVariables false
set_option linter.unusedSimpArgs false
open Go.RowKit Go.Proofs.Qxb6605676a.Mp Go.Proofs.Qxb6605676a.Tm Go.Proofs.Qxb6605676a.En

theorem okL : okB.toList = [79, 75] := okB_list
section
variable {rz kb base : Nat} {R : List RuleD} {K : List ZK} {w wr : World}
set_option maxRecDepth 100000 in
theorem round61a (P0 : Act → World → Prop) (Q0 : Exit → Act → World → Prop) (j kc : Nat) (v : Value) (hjn : j < K.length) (hn : K.length ≤ 4096) (hRl : R.length ≤ 1000) (hRs : ∀ r ∈ R, r.sevs.length ≤ 1000)
    (hR : Hid (RulesAt wr rz R)) (hK : Hid (KeysAt wr kb 0 K)) (hb : Hid (Below base w wr ∧ base ≤ wr.heap.size)) (ho : Hid (wr.ownsRow base 148 4 v (modL R (K.take j)).length ((modL R (K.take j)).flatMap enCells))) (u7 u8 u9 u10 u11 u21 u22 u23 u24 u25 u26 u27 u28 u29 u30 u31 u32 u33 u34 u35 u36 u37 u38 u39 u40 u41 u42 u43 u44 u45 u46 u47 u48 u49 u50 u51 u52 u53 u54 u55 u56 u57 u58 u59 u60 u61 u62 u63 u64 u65 u66 u67 u68 u69 u70 u71 u72 u73 u74 u75 u76 u77 u78 u79 u80 u81 u82 u83 u84 u85 u86 u87 u88 u89 u90 u91 u92 u93 c2 c3 c4 c12 c13 c14 c15 c16 c17 c18 c19 c20 c94 c95 c96 c97 c98 c99 c100 c101 c102 c103 c104 c105 c106 c107 c108 c109 c110 c111 c112 c113 c114 c115 c116 c117 c118 c119 c120 c121 c122 c123 c124 c125 c126 c127 c128 c129 c130 c131 c132 c133 c134 c135 c136 c137 c138 c139 c140 c141 c142 c143 c144 c145 c146 c147 c148 c149 c150 c151 c152 c153 c154 c155 c156 c157 c158 c159 c160 c161 c162 c163 c164 c165 c166 c167 c168 c169 c170 c171 c172 c173 c174 c175 c176 c177 c178 c179 c180 c181 c182 c183 c184 c185 c186 c187 c188 c189 c190 c191 c192 c193 c194 c195 c196 c197 c198 c199 c200 c201 c202 c203 c204 c205 c206 c207 c208 c209 c210 c211 c212 c213 c214 c215 c216 c217 : Value)
    (hend : ∀ (v7 v8 v9 v10 v11 v21 v22 v23 v24 v25 v26 v27 v28 v29 v30 v31 v32 v33 v34 v35 v36 v37 v38 v39 v40 v41 v42 v43 v44 v45 v46 v47 v48 v49 v50 v51 v52 v53 v54 v55 v56 v57 v58 v59 v60 v61 v62 v63 v64 v65 v66 v67 v68 v69 v70 v71 v72 v73 v74 v75 v76 v77 v78 v79 v80 v81 v82 v83 v84 v85 v86 v87 v88 v89 v90 v91 v92 v93 v' : Value) (w' : World), Below base w w' ∧ base ≤ w'.heap.size ∧ w'.ownsRow base 148 4 v' (modL R (K.take (j + 1))).length ((modL R (K.take (j + 1))).flatMap enCells) → P0 ⟨#[.slice (some ⟨rz, 0, none⟩) R.length R.length, .slice (some ⟨kb, 0, none⟩) K.length kc, c2, c3, c4, v', .int .i64 ((j + 1 : Nat) : Int), v7, v8, v9, v10, v11, c12, c13, c14, c15, c16, c17, c18, c19, c20, v21, v22, v23, v24, v25, v26, v27, v28, v29, v30, v31, v32, v33, v34, v35, v36, v37, v38, v39, v40, v41, v42, v43, v44, v45, v46, v47, v48, v49, v50, v51, v52, v53, v54, v55, v56, v57, v58, v59, v60, v61, v62, v63, v64, v65, v66, v67, v68, v69, v70, v71, v72, v73, v74, v75, v76, v77, v78, v79, v80, v81, v82, v83, v84, v85, v86, v87, v88, v89, v90, v91, v92, v93, c94, c95, c96, c97, c98, c99, c100, c101, c102, c103, c104, c105, c106, c107, c108, c109, c110, c111, c112, c113, c114, c115, c116, c117, c118, c119, c120, c121, c122, c123, c124, c125, c126, c127, c128, c129, c130, c131, c132, c133, c134, c135, c136, c137, c138, c139, c140, c141, c142, c143, c144, c145, c146, c147, c148, c149, c150, c151, c152, c153, c154, c155, c156, c157, c158, c159, c160, c161, c162, c163, c164, c165, c166, c167, c168, c169, c170, c171, c172, c173, c174, c175, c176, c177, c178, c179, c180, c181, c182, c183, c184, c185, c186, c187, c188, c189, c190, c191, c192, c193, c194, c195, c196, c197, c198, c199, c200, c201, c202, c203, c204, c205, c206, c207, c208, c209, c210, c211, c212, c213, c214, c215, c216, c217], []⟩ w') :
    Code.wp Try.prog body61a (Exit.then P0 Q0) ⟨#[.slice (some ⟨rz, 0, none⟩) R.length R.length, .slice (some ⟨kb, 0, none⟩) K.length kc, c2, c3, c4, v, .int .i64 j, u7, u8, u9, u10, u11, c12, c13, c14, c15, c16, c17, c18, c19, c20, u21, u22, u23, u24, u25, u26, u27, u28, u29, u30, u31, u32, u33, u34, u35, u36, u37, u38, u39, u40, u41, u42, u43, u44, u45, u46, u47, u48, u49, u50, u51, u52, u53, u54, u55, u56, u57, u58, u59, u60, u61, u62, u63, u64, u65, u66, u67, u68, u69, u70, u71, u72, u73, u74, u75, u76, u77, u78, u79, u80, u81, u82, u83, u84, u85, u86, u87, u88, u89, u90, u91, u92, u93, c94, c95, c96, c97, c98, c99, c100, c101, c102, c103, c104, c105, c106, c107, c108, c109, c110, c111, c112, c113, c114, c115, c116, c117, c118, c119, c120, c121, c122, c123, c124, c125, c126, c127, c128, c129, c130, c131, c132, c133, c134, c135, c136, c137, c138, c139, c140, c141, c142, c143, c144, c145, c146, c147, c148, c149, c150, c151, c152, c153, c154, c155, c156, c157, c158, c159, c160, c161, c162, c163, c164, c165, c166, c167, c168, c169, c170, c171, c172, c173, c174, c175, c176, c177, c178, c179, c180, c181, c182, c183, c184, c185, c186, c187, c188, c189, c190, c191, c192, c193, c194, c195, c196, c197, c198, c199, c200, c201, c202, c203, c204, c205, c206, c207, c208, c209, c210, c211, c212, c213, c214, c215, c216, c217], []⟩ wr := by
  have hE : (modL R (K.take j)).length ≤ 4096 := Nat.le_trans (modL_len R _) (by simp; omega)
  have hq : K[j]? = some K[j] := List.getElem?_eq_getElem hjn
  rw [List.take_succ_eq_append_getElem hjn, modL_snoc] at hend
  generalize K[j] = q at *
  generalize (modL R (K.take j)) = E at *
  cases hs : (q.state.toList == [79, 75]) with
  | true =>
    have h1 : modStep R E q = E := by
      unfold modStep stands
      rw [if_pos (show (q.state.toList == okB.toList) = true by rw [okL]; exact hs)]
    rw [h1] at hend
    exact w61a_ok P0 Q0 q j kc v hq hjn hn hE hRl hRs hs hR hK hb ho u7 u8 u9 u10 u11 u21 u22 u23 u24 u25 u26 u27 u28 u29 u30 u31 u32 u33 u34 u35 u36 u37 u38 u39 u40 u41 u42 u43 u44 u45 u46 u47 u48 u49 u50 u51 u52 u53 u54 u55 u56 u57 u58 u59 u60 u61 u62 u63 u64 u65 u66 u67 u68 u69 u70 u71 u72 u73 u74 u75 u76 u77 u78 u79 u80 u81 u82 u83 u84 u85 u86 u87 u88 u89 u90 u91 u92 u93 c2 c3 c4 c12 c13 c14 c15 c16 c17 c18 c19 c20 c94 c95 c96 c97 c98 c99 c100 c101 c102 c103 c104 c105 c106 c107 c108 c109 c110 c111 c112 c113 c114 c115 c116 c117 c118 c119 c120 c121 c122 c123 c124 c125 c126 c127 c128 c129 c130 c131 c132 c133 c134 c135 c136 c137 c138 c139 c140 c141 c142 c143 c144 c145 c146 c147 c148 c149 c150 c151 c152 c153 c154 c155 c156 c157 c158 c159 c160 c161 c162 c163 c164 c165 c166 c167 c168 c169 c170 c171 c172 c173 c174 c175 c176 c177 c178 c179 c180 c181 c182 c183 c184 c185 c186 c187 c188 c189 c190 c191 c192 c193 c194 c195 c196 c197 c198 c199 c200 c201 c202 c203 c204 c205 c206 c207 c208 c209 c210 c211 c212 c213 c214 c215 c216 c217 hend
  | false =>
    have hs2 : ¬ (q.state.toList == okB.toList) = true := by
      intro h; rw [okL, hs] at h; cases h
    obtain ⟨i, l, hm⟩ : ∃ i l, mtc R q.rule q.metric q.sev = (i, l) := ⟨_, _, rfl⟩
    by_cases hil : i < 0 ∨ (0 ≤ i ∧ ¬ l = 0)
    · have h1 : modStep R E q = E := by
        unfold modStep stands
        rw [if_neg hs2, hm]
        rcases hil with h | ⟨h, h'⟩
        · rw [if_pos (show (i, l).1 < 0 from h)]
        · rw [if_neg (show ¬ (i, l).1 < 0 by simp only; omega), if_neg (show ¬ (i, l).2 = 0 from h')]
      rw [h1] at hend
      exact w61a_un P0 Q0 q j kc v hq hjn hn hE hRl hRs hs i l hm hil hR hK hb ho u7 u8 u9 u10 u11 u21 u22 u23 u24 u25 u26 u27 u28 u29 u30 u31 u32 u33 u34 u35 u36 u37 u38 u39 u40 u41 u42 u43 u44 u45 u46 u47 u48 u49 u50 u51 u52 u53 u54 u55 u56 u57 u58 u59 u60 u61 u62 u63 u64 u65 u66 u67 u68 u69 u70 u71 u72 u73 u74 u75 u76 u77 u78 u79 u80 u81 u82 u83 u84 u85 u86 u87 u88 u89 u90 u91 u92 u93 c2 c3 c4 c12 c13 c14 c15 c16 c17 c18 c19 c20 c94 c95 c96 c97 c98 c99 c100 c101 c102 c103 c104 c105 c106 c107 c108 c109 c110 c111 c112 c113 c114 c115 c116 c117 c118 c119 c120 c121 c122 c123 c124 c125 c126 c127 c128 c129 c130 c131 c132 c133 c134 c135 c136 c137 c138 c139 c140 c141 c142 c143 c144 c145 c146 c147 c148 c149 c150 c151 c152 c153 c154 c155 c156 c157 c158 c159 c160 c161 c162 c163 c164 c165 c166 c167 c168 c169 c170 c171 c172 c173 c174 c175 c176 c177 c178 c179 c180 c181 c182 c183 c184 c185 c186 c187 c188 c189 c190 c191 c192 c193 c194 c195 c196 c197 c198 c199 c200 c201 c202 c203 c204 c205 c206 c207 c208 c209 c210 c211 c212 c213 c214 c215 c216 c217 hend
    · obtain ⟨i', rfl⟩ : ∃ i' : Nat, i = (i' : Int) := ⟨i.toNat, by omega⟩
      obtain rfl : l = 0 := by omega
      have hst : stands R q = some i' := by
        unfold stands
        rw [if_neg hs2, hm, if_neg (show ¬ ((i' : Int), (0 : Int)).1 < 0 by simp only; omega), if_pos rfl]
        simp
      cases hsn : (E.any fun e => (e.rule == i' && e.sensor.toList == q.sensor.toList)) with
      | true =>
        have h1 : modStep R E q = E := by
          unfold modStep
          rw [hst]
          simp only
          rw [if_pos hsn]
        rw [h1] at hend
        exact w61a_s1 P0 Q0 q j kc v hq hjn hn hE hRl hRs hs i' hm hsn hR hK hb ho u7 u8 u9 u10 u11 u21 u22 u23 u24 u25 u26 u27 u28 u29 u30 u31 u32 u33 u34 u35 u36 u37 u38 u39 u40 u41 u42 u43 u44 u45 u46 u47 u48 u49 u50 u51 u52 u53 u54 u55 u56 u57 u58 u59 u60 u61 u62 u63 u64 u65 u66 u67 u68 u69 u70 u71 u72 u73 u74 u75 u76 u77 u78 u79 u80 u81 u82 u83 u84 u85 u86 u87 u88 u89 u90 u91 u92 u93 c2 c3 c4 c12 c13 c14 c15 c16 c17 c18 c19 c20 c94 c95 c96 c97 c98 c99 c100 c101 c102 c103 c104 c105 c106 c107 c108 c109 c110 c111 c112 c113 c114 c115 c116 c117 c118 c119 c120 c121 c122 c123 c124 c125 c126 c127 c128 c129 c130 c131 c132 c133 c134 c135 c136 c137 c138 c139 c140 c141 c142 c143 c144 c145 c146 c147 c148 c149 c150 c151 c152 c153 c154 c155 c156 c157 c158 c159 c160 c161 c162 c163 c164 c165 c166 c167 c168 c169 c170 c171 c172 c173 c174 c175 c176 c177 c178 c179 c180 c181 c182 c183 c184 c185 c186 c187 c188 c189 c190 c191 c192 c193 c194 c195 c196 c197 c198 c199 c200 c201 c202 c203 c204 c205 c206 c207 c208 c209 c210 c211 c212 c213 c214 c215 c216 c217 hend
      | false =>
        have h1 : modStep R E q = E ++ [⟨i', q.sensor, 0, ⟨#[]⟩⟩] := by
          unfold modStep
          rw [hst]
          simp only
          rw [if_neg (by rw [hsn]; simp)]
        rw [h1] at hend
        exact w61a_s0 P0 Q0 q j kc v hq hjn hn hE hRl hRs hs i' hm hsn hR hK hb ho u7 u8 u9 u10 u11 u21 u22 u23 u24 u25 u26 u27 u28 u29 u30 u31 u32 u33 u34 u35 u36 u37 u38 u39 u40 u41 u42 u43 u44 u45 u46 u47 u48 u49 u50 u51 u52 u53 u54 u55 u56 u57 u58 u59 u60 u61 u62 u63 u64 u65 u66 u67 u68 u69 u70 u71 u72 u73 u74 u75 u76 u77 u78 u79 u80 u81 u82 u83 u84 u85 u86 u87 u88 u89 u90 u91 u92 u93 c2 c3 c4 c12 c13 c14 c15 c16 c17 c18 c19 c20 c94 c95 c96 c97 c98 c99 c100 c101 c102 c103 c104 c105 c106 c107 c108 c109 c110 c111 c112 c113 c114 c115 c116 c117 c118 c119 c120 c121 c122 c123 c124 c125 c126 c127 c128 c129 c130 c131 c132 c133 c134 c135 c136 c137 c138 c139 c140 c141 c142 c143 c144 c145 c146 c147 c148 c149 c150 c151 c152 c153 c154 c155 c156 c157 c158 c159 c160 c161 c162 c163 c164 c165 c166 c167 c168 c169 c170 c171 c172 c173 c174 c175 c176 c177 c178 c179 c180 c181 c182 c183 c184 c185 c186 c187 c188 c189 c190 c191 c192 c193 c194 c195 c196 c197 c198 c199 c200 c201 c202 c203 c204 c205 c206 c207 c208 c209 c210 c211 c212 c213 c214 c215 c216 c217 hend
end

/-- The first m entries filled. -/
def fillTo (R : List RuleD) (K : List ZK) (E : List EN) (m : Nat) : List EN := (E.take m).map (fil R K) ++ E.drop m
theorem fill_len (R : List RuleD) (K : List ZK) (E : List EN) (m : Nat) : (fillTo R K E m).length = E.length := by
  unfold fillTo; simp; omega
theorem fill_at (R : List RuleD) (K : List ZK) (E : List EN) (m : Nat) (h : m < E.length) : (fillTo R K E m)[m]? = some E[m] := by
  unfold fillTo
  rw [List.getElem?_append_right (by simp; omega), List.length_map, List.length_take, Nat.min_eq_left (by omega), Nat.sub_self, List.getElem?_drop]
  simp [h]
theorem fill_set (R : List RuleD) (K : List ZK) (E : List EN) (m : Nat) (h : m < E.length) : (fillTo R K E m).set m (fil R K E[m]) = fillTo R K E (m + 1) := by
  unfold fillTo
  rw [List.set_append_right _ _ (by simp; omega), List.length_map, List.length_take, Nat.min_eq_left (by omega), Nat.sub_self, List.take_succ_eq_append_getElem h, List.map_append, List.append_assoc]
  congr 1
  rw [List.drop_eq_getElem_cons h]
  rfl
theorem fill_all (R : List RuleD) (K : List ZK) (E : List EN) : fillTo R K E E.length = E.map (fil R K) := by
  unfold fillTo; simp
theorem own_block4 {base : Nat} {v : Value} {w : World} (L : List EN) (h : w.ownsRow base 148 4 v L.length (L.flatMap enCells)) :
    (L = [] ∧ ∃ la lc, v = .slice la 0 lc) ∨ ∃ g c, v = .slice (some ⟨g, 0, none⟩) L.length c ∧ base ≤ g ∧ RowsAt w g 4 enCells L ∧ w.there g 0 (L.length * 4) ∧ g < w.heap.size ∧ L ≠ [] := by
  by_cases hL : L = []
  · subst hL
    obtain ⟨la, lc, rfl, _⟩ := own_rows4 (f := enCells) (n := 4) (fun x => rfl) ([] : List EN) h
    exact .inl ⟨rfl, la, lc, rfl⟩
  obtain ⟨la, lc, rfl, hx⟩ := own_rows4 (f := enCells) (n := 4) (fun x => rfl) L h
  rcases hx with h0 | ⟨g, rfl, hrows⟩
  · exact absurd h0 hL
  · refine .inr ⟨g, lc, rfl, ?_, hrows, ?_, (there_own h).2, hL⟩
    · rcases h.2 with ⟨hv, _⟩ | ⟨g', cap, cur, hv, hbg, _⟩
      · cases hv
      · simp at hv; omega
    · have hle : L.length ≤ lc := by
        rcases h.2 with ⟨hv, _⟩ | ⟨g', cap, cur, hv, hbg, _, hc, _⟩
        · cases hv
        · simp at hv; omega
      intro k hk
      exact (there_own h).1 k (by omega)
theorem keys_ltB {w w' : World} {B kb : Nat} {K : List ZK} (h : KeysAt w kb 0 K) (hb : Below B w w') (hl : kb < B) : KeysAt w' kb 0 K := by
  intro j k hk c v hv
  rw [hb.cell (p := ⟨kb, 0 + j * 11 + c, none⟩) hl]
  exact h j k hk c v hv

set_option maxHeartbeats 6400000 in
set_option maxRecDepth 100000 in
theorem zzactiveModel_any (R : List RuleD) (K : List ZK) (rz : Nat) (ka : Option Addr) (kc : Nat) (w : World) (hR : RulesAt w rz R) (hrz : rz < w.heap.size) (hlen : R.length ≤ 1000) (hns : ∀ r ∈ R, r.name.size < 2 ^ 63) (hone : ∀ r ∈ R, ∃ s, r.sevs = [s])
    (hK : KArg w ka K) (hkl : K.length ≤ 4096) (hse : ∀ q ∈ K, q.sensor.size < 2 ^ 63) :
    Calls Try.prog 61 #[.slice (some ⟨rz, 0, none⟩) R.length R.length, .slice ka K.length kc] w fun e w' => ∃ (ga : Option Addr) (ec : Nat) (E : List EN), e = .returned (.slice ga E.length ec) ∧ E.Perm ((modL R K).map (fil R K)) ∧ SortedTo R E.length E ∧ (E = [] ∨ ∃ g, ga = some ⟨g, 0, none⟩ ∧ RowsAt w' g 4 enCells E) ∧ Below w.heap.size w w' := by
  have hRs : ∀ r ∈ R, r.sevs.length ≤ 1000 := fun r hr => by
    obtain ⟨s, hs⟩ := hone r hr
    rw [hs]; simp
  have HR : Hid (RulesAt w rz R) := hR
  have HK : Hid (KArg w ka K) := hK
  have HS : Hid (∀ q ∈ K, q.sensor.size < 2 ^ 63) := hse
  have HN : Hid (∀ r ∈ R, r.name.size < 2 ^ 63) := hns
  have HO : Hid (∀ r ∈ R, ∃ s, r.sevs = [s]) := hone
  clear hR hK hse hns hone
  go_enter Try.func61, Try.ntmps61
  go_wp2_with fail
  go_loopw [5, 6] (fun v x wr => ∃ j : Nat, j ≤ K.length ∧ x = .int .i64 j ∧ (Below w.heap.size w wr ∧ w.heap.size ≤ wr.heap.size) ∧ wr.ownsRow w.heap.size 148 4 v (modL R (K.take j)).length ((modL R (K.take j)).flatMap enCells)) (fun _ x _ => K.length - (intOf x).toNat)
  case atStart => exact ⟨0, Nat.zero_le _, rfl, ⟨Below.refl _ _, Nat.le_refl _⟩, ⟨rfl, .inl ⟨rfl, rfl⟩⟩⟩
  case round =>
    obtain ⟨j, hj, rfl, hb, hown⟩ := hrel
    by_cases hjl : j < K.length
    · rcases HK.out with h0 | ⟨kb, rfl, hKK⟩
      · rw [h0] at hjl; simp at hjl
      refine round61a (R := R) (K := K) (w := w) _ _ j kc _ hjl hkl hlen hRs (HR.out.below hb.1) (hKK.below hb.1) hb hown _ _ _ _ _ _ _ _ _ _ _ _ _ _ _ _ _ _ _ _ _ _ _ _ _ _ _ _ _ _ _ _ _ _ _ _ _ _ _ _ _ _ _ _ _ _ _ _ _ _ _ _ _ _ _ _ _ _ _ _ _ _ _ _ _ _ _ _ _ _ _ _ _ _ _ _ _ _ _ _ _ _ _ _ _ _ _ _ _ _ _ _ _ _ _ _ _ _ _ _ _ _ _ _ _ _ _ _ _ _ _ _ _ _ _ _ _ _ _ _ _ _ _ _ _ _ _ _ _ _ _ _ _ _ _ _ _ _ _ _ _ _ _ _ _ _ _ _ _ _ _ _ _ _ _ _ _ _ _ _ _ _ _ _ _ _ _ _ _ _ _ _ _ _ _ _ _ _ _ _ _ _ _ _ _ _ _ _ _ _ _ _ _ _ _ _ _ _ _ _ _ _ _ _ _ _ _ _ _ _ _ _ _ _ ?_
      intro _ _ _ _ _ _ _ _ _ _ _ _ _ _ _ _ _ _ _ _ _ _ _ _ _ _ _ _ _ _ _ _ _ _ _ _ _ _ _ _ _ _ _ _ _ _ _ _ _ _ _ _ _ _ _ _ _ _ _ _ _ _ _ _ _ _ _ _ _ _ _ _ _ _ _ _ _ _ v' w' hb'
      dsimp only
      go_roundw
      case rel => exact ⟨j + 1, by omega, rfl, ⟨hb'.1, hb'.2.1⟩, hb'.2.2⟩
      case measure => simp [intOf]; omega
    · have hje : j = K.length := by omega
      subst hje
      rw [List.take_of_length_le (Nat.le_refl _)] at hown
      have hml := modL_len R K
      rcases own_block4 (modL R K) hown with ⟨hE0, la, lc, rfl⟩ | ⟨g, ec, rfl, hbg, hrows, hth, hgl, hne⟩
      · have HE0 : Hid (modL R K = []) := hE0
        have HB : Hid (Below w.heap.size w wr) := hb.1
        clear hE0 hb hown
        go_wp2_with fail
        obtain ⟨w1, rfl⟩ : ∃ w1, w1 = wr := ⟨_, rfl⟩
        go_loopw [12] (fun x wr' => x = .int .i64 0 ∧ wr' = w1) (fun _ _ => 0)
        case atStart => exact ⟨rfl, rfl⟩
        case round =>
          obtain ⟨rfl, rfl⟩ := hrel
          go_wp2_with fail
          obtain ⟨w1, rfl⟩ : ∃ w1, w1 = wr := ⟨_, rfl⟩
          go_loopw [18] (fun x wr2 => x = .int .i64 1 ∧ wr2 = w1) (fun _ _ => 0)
          case atStart => exact ⟨rfl, rfl⟩
          case round =>
            obtain ⟨rfl, rfl⟩ := hrel
            go_wp2_with fail
            go_ret
            exact ⟨_, _, [], rfl, by rw [HE0.out]; exact List.Perm.refl _, (fun i j x y h1 h2 => by simp at h2), .inl rfl, HB.out⟩
      · have HB : Hid (Below w.heap.size w wr) := hb.1
        have HROW : Hid (RowsAt wr g 4 enCells (modL R K)) := hrows
        have HTH : Hid (wr.there g 0 ((modL R K).length * 4)) := hth
        have hKb : ∃ kb, ka = some ⟨kb, 0, none⟩ ∧ KeysAt w kb 0 K := by
          rcases HK.out with h0 | h
          · subst h0; exact absurd rfl hne
          · exact h
        have hpos : 0 < (modL R K).length := List.length_pos_iff.2 hne
        obtain ⟨kb, rfl, hKK⟩ := hKb
        have hK0 : 0 < K.length := by omega
        have hkb : kb < w.heap.size := World.block_lt_of_cell? w _ (hKK 0 _ (List.getElem?_eq_getElem hK0) 0 _ rfl)
        have HKK : Hid (KeysAt w kb 0 K) := hKK
        have HMO : Hid (ModOk R K (modL R K)) := modL_ok R K
        have HSF : Hid (∀ e ∈ modL R K, ∃ (a : Nat) (za : ZK) (r : RuleD), srcOf R K e = (a : Int) ∧ K[a]? = some za ∧ R[e.rule]? = some r ∧ za.sensor = e.sensor) := fun e he => src_facts ((modL_ok R K).back e he)
        clear hrows hth hb hown hKK hne
        generalize hEE : modL R K = EE at *
        generalize hnE : EE.length = nE at *
        obtain ⟨w1, rfl⟩ : ∃ w1, w1 = wr := ⟨_, rfl⟩
        go_wp2_with fail
        go_loopw [12] (fun x wr2 => ∃ m : Nat, m ≤ nE ∧ x = .int .i64 m ∧ Below g w1 wr2 ∧ RowsAt wr2 g 4 enCells (fillTo R K EE m) ∧ wr2.there g 0 (nE * 4) ∧ g < wr2.heap.size) (fun x _ => nE - (intOf x).toNat)
        case atStart => exact ⟨0, Nat.zero_le _, rfl, Below.refl _ _, by unfold fillTo; simpa using HROW.out, HTH.out, hgl⟩
        case round =>
          obtain ⟨m, hm, rfl, hb2, hrow2, hth2, hg2⟩ := hrel
          have hb02 : Below w.heap.size w wr := HB.out.trans (hb2.mono hbg)
          by_cases hml2' : m < nE
          · have hml2 : m < EE.length := by omega
            obtain ⟨a, za, r, h1, h2, h3, h4⟩ := HSF.out EE[m] (List.getElem_mem hml2)
            obtain ⟨s, hs1⟩ := HO.out r (List.mem_of_getElem? h3)
            have hsv : sevOf R EE[m] = s := by
              unfold sevOf
              rw [name_at h3, hs1]
              rfl
            have hfill : (fillTo R K EE m).set m ⟨EE[m].rule, EE[m].sensor, (a : Int), s⟩ = fillTo R K EE (m + 1) := by
              rw [← fill_set R K EE m hml2]
              unfold fil
              rw [h1, hsv]
            have hfl := fill_len R K EE m
            have hat := fill_at R K EE m hml2
            generalize hEm : EE[m] = em at *
            generalize hFE : fillTo R K EE m = FE at *
            have hnF : nE = FE.length := by omega
            subst hnF
            cases hst : (za.state.toList == [70, 73, 82, 73, 78, 71]) with
            | true =>
              refine w61b_f (R := R) (K := K) (E := FE) (w := w1) _ _ (fun _ _ d _ _ h => by cases d <;> exact h) em m kc ec hat hml2' (by omega) hkl hlen hRs r h3 s hs1 a za h2 h1 hst ⟨HR.out.below hb02, by omega⟩ ⟨HKK.out.below hb02, by omega⟩ hb2 hg2 hrow2 hth2 _ _ _ _ _ _ _ _ _ _ _ _ _ _ _ _ _ _ _ _ _ _ _ _ _ _ _ _ _ _ _ _ _ _ _ _ _ _ _ _ _ _ _ _ _ _ _ _ _ _ _ _ _ _ _ _ _ _ _ _ _ _ _ _ _ _ _ _ _ _ _ _ _ _ _ _ _ _ _ _ _ _ _ _ _ _ _ _ _ _ _ _ _ _ _ _ _ _ _ _ _ _ _ _ _ _ _ _ _ _ _ _ _ _ _ _ _ _ _ _ _ _ _ _ _ _ _ _ _ _ _ _ _ _ _ _ _ _ _ _ _ _ _ _ _ _ _ _ _ _ _ _ _ _ _ _ _ _ _ _ _ _ _ _ _ _ _ _ _ _ _ _ _ _ _ _ _ _ _ _ _ _ _ _ _ _ _ _ _ _ _ _ _ _ _ _ _ _ _ _ _ _ _ _ _ _ _ _ _ _ _ _ _ _ ?_
              intro _ _ _ _ _ _ _ _ _ _ _ _ _ _ _ _ _ _ _ _ _ _ _ _ _ _ _ _ _ _ _ _ _ _ _ _ _ _ _ _ _ _ _ _ _ _ _ _ _ _ _ _ _ _ _ _ _ _ _ _ _ _ _ _ _ _ _ _ _ _ _ _ _ _ _ _ _ _ _ _ _ _ _ _ _ _ _ w' hb'
              dsimp only
              go_roundw
              case rel => exact ⟨m + 1, by omega, rfl, hb'.1, by rw [← hfill]; exact hb'.2.1, hb'.2.2.1, hb'.2.2.2⟩
              case measure => simp [intOf]; omega
            | false =>
              refine w61b_n (R := R) (K := K) (E := FE) (w := w1) _ _ (fun _ _ d _ _ h => by cases d <;> exact h) em m kc ec hat hml2' (by omega) hkl hlen hRs r h3 s hs1 a za h2 h1 hst ⟨HR.out.below hb02, by omega⟩ ⟨HKK.out.below hb02, by omega⟩ hb2 hg2 hrow2 hth2 _ _ _ _ _ _ _ _ _ _ _ _ _ _ _ _ _ _ _ _ _ _ _ _ _ _ _ _ _ _ _ _ _ _ _ _ _ _ _ _ _ _ _ _ _ _ _ _ _ _ _ _ _ _ _ _ _ _ _ _ _ _ _ _ _ _ _ _ _ _ _ _ _ _ _ _ _ _ _ _ _ _ _ _ _ _ _ _ _ _ _ _ _ _ _ _ _ _ _ _ _ _ _ _ _ _ _ _ _ _ _ _ _ _ _ _ _ _ _ _ _ _ _ _ _ _ _ _ _ _ _ _ _ _ _ _ _ _ _ _ _ _ _ _ _ _ _ _ _ _ _ _ _ _ _ _ _ _ _ _ _ _ _ _ _ _ _ _ _ _ _ _ _ _ _ _ _ _ _ _ _ _ _ _ _ _ _ _ _ _ _ _ _ _ _ _ _ _ _ _ _ _ _ _ _ _ _ _ _ _ _ _ _ _ ?_
              intro _ _ _ _ _ _ _ _ _ _ _ _ _ _ _ _ _ _ _ _ _ _ _ _ _ _ _ _ _ _ _ _ _ _ _ _ _ _ _ _ _ _ _ _ _ _ _ _ _ _ _ _ _ _ _ _ _ _ _ _ _ _ _ _ _ _ _ _ _ _ _ _ _ _ _ _ _ _ _ _ _ _ _ _ _ _ _ w' hb'
              dsimp only
              go_roundw
              case rel => exact ⟨m + 1, by omega, rfl, hb'.1, by rw [← hfill]; exact hb'.2.1, hb'.2.2.1, hb'.2.2.2⟩
              case measure => simp [intOf]; omega
          · have hme : m = nE := by omega
            subst hme
            rw [← hnE, fill_all] at hrow2
            obtain ⟨w2, rfl⟩ : ∃ w2, w2 = wr := ⟨_, rfl⟩
            have HB02 : Hid (Below w.heap.size w w2) := hb02
            have HROW2 : Hid (RowsAt w2 g 4 enCells (EE.map (fil R K))) := hrow2
            have HTH2 : Hid (w2.there g 0 (m * 4)) := hth2
            have HR2 : Hid (RulesAt w2 rz R ∧ (∀ i r, R[i]? = some r → ∃ sb, sb < g ∧ w2.cell? ⟨rz, i * 3 + 2, none⟩ = some (.slice (some ⟨sb, 0, none⟩) r.sevs.length r.sevs.length)) ∧ rz < g) := by
              refine ⟨HR.out.below hb02, fun i r hr => ?_, by omega⟩
              obtain ⟨_, _, sb, h2, h3⟩ := HR.out i r hr
              obtain ⟨s, hs⟩ := HO.out r (List.mem_of_getElem? hr)
              have hsb : sb < w.heap.size := World.block_lt_of_cell? w _ (h3 0 s (by rw [hs]; rfl))
              exact ⟨sb, by omega, by rw [hb02.cell (World.block_lt_of_cell? w _ h2)]; exact h2⟩
            have HEN : Hid (∀ e ∈ EE, e.rule < R.length ∧ e.sensor.size < 2 ^ 63) := fun e he => by
              obtain ⟨a, za, r, h1, h2, h3, h4⟩ := HSF.out e he
              refine ⟨(List.getElem?_eq_some_iff.1 h3).1, ?_⟩
              rw [← h4]
              exact HS.out za (List.mem_of_getElem? h2)
            clear hb2 hrow2 hth2 hb02
            go_wp2_with fail
            go_loopw [18] (fun x wr3 => ∃ (a : Nat) (E3 : List EN), 1 ≤ a ∧ a ≤ m ∧ x = .int .i64 a ∧ Below g w2 wr3 ∧ E3.length = m ∧ E3.Perm (EE.map (fil R K)) ∧ SortedTo R a E3 ∧ RowsAt wr3 g 4 enCells E3 ∧ wr3.there g 0 (m * 4) ∧ g < wr3.heap.size) (fun x _ => m - (intOf x).toNat)
            case atStart => exact ⟨1, EE.map (fil R K), Nat.le_refl _, hpos, rfl, Below.refl _ _, by simpa using hnE, List.Perm.refl _, (fun i j x y h1 h2 => by omega), HROW2.out, HTH2.out, hg2⟩
            case round =>
              obtain ⟨a, E3, ha1, ha, rfl, hb3, hl3, hp3, hs3, hrow3, hth3, hg3⟩ := hrel
              by_cases hal : a < m
              · refine w61c (R := R) (E0 := E3) (w := w2) _ _ (fun _ _ d _ _ h => by cases d <;> exact h) a m ec ha1 hal (by omega) hl3 hlen HN.out ?_ HR2.out hb3 hg3 (by omega) hrow3 hth3 _ _ _ _ _ _ _ _ _ _ _ _ _ _ _ _ _ _ _ _ _ _ _ _ _ _ _ _ _ _ _ _ _ _ _ _ _ _ _ _ _ _ _ _ _ _ _ _ _ _ _ _ _ _ _ _ _ _ _ _ _ _ _ _ _ _ _ _ _ _ _ _ _ _ _ _ _ _ _ _ _ _ _ _ _ _ _ _ _ _ _ _ _ _ _ _ _ _ _ _ _ _ _ _ _ _ _ _ _ _ _ _ _ _ _ _ _ _ _ _ _ _ _ _ _ _ _ _ _ _ _ _ _ _ _ _ _ _ _ _ _ _ _ _ _ _ _ _ _ _ _ _ _ _ _ _ _ _ _ _ _ _ _ _ _ _ _ _ _ _ _ _ _ _ _ _ _ _ _ _ _ _ _ _ _ _ _ _ _ _ _ _ _ _ _ _ _ _ _ _ _ _ _ _ _ _ _ _ _ _ _ _ _ _ _ ?_
                · intro e he
                  obtain ⟨e0, he0, rfl⟩ := List.mem_map.1 (hp3.mem_iff.1 he)
                  exact HEN.out e0 he0
                intro _ _ _ _ _ _ _ _ _ _ _ _ _ _ _ _ _ _ _ _ _ _ _ _ _ _ _ _ _ _ _ _ _ _ _ _ _ _ _ _ _ _ _ w' hb'
                obtain ⟨E4, k1, k2, k3, k4, k5, k6, k7⟩ := hb'
                dsimp only
                go_roundw
                case rel => exact ⟨a + 1, E4, by omega, by omega, rfl, k1, k2, k3.trans hp3, k4 hs3, k5, k6, k7⟩
                case measure => simp [intOf]; omega
              · have hae : a = m := by omega
                subst hae
                have HB3 : Hid (Below w.heap.size w wr) := HB02.out.trans (hb3.mono hbg)
                have HROW3 : Hid (RowsAt wr g 4 enCells E3) := hrow3
                clear hb3 hrow3 hth3
                go_wp2_with fail
                go_ret
                exact ⟨some ⟨g, 0, none⟩, ec, E3, by rw [hl3]; rfl, by rw [hEE]; exact hp3, by rw [hl3]; exact hs3, .inr ⟨g, rfl, HROW3.out⟩, HB3.out⟩
end Go.Proofs.Qxb6605676a.Kz
