import Derived.Test.Qxb6605676aK4npn
import Derived.Test.Qxb6605676aK4nps
import Derived.Test.Qxb6605676aK4pln
import Derived.Test.Qxb6605676aK4pls
import Derived.Test.Qxb6605676aK4f
namespace Go.Proofs.Qxb6605676a.Kz
set_option linter.unusedVariables false
set_option linter.unusedSimpArgs false
open Go.RowKit Go.Proofs.Qxb6605676a.Mp Go.Proofs.Qxb6605676a.Tm Go.Proofs.Qxb6605676a.En
open Go.ChangeMaps (setBlock heap_setBlock_same)

section
variable {mb rb pb lr bx base kb sb tb : Nat} {rs : Array Value} {R : List RuleD} {K : List ZK} {S : List ZS} {T' : List ZR} {w0 : World} {sa ta : Option Addr} {XS : List ZS} {U : List ZK} {ptrs : List Nat} {wr : World} {l : Value}

/-- The level that fires, behind Restore. -/
theorem firing_rel (rel : Rel3 w0 sa ta mb rb pb lr bx base kb sb tb rs R K S T' XS (K.zip ptrs) K K U wr l) (hpl : ptrs.length = K.length) (hRs : ∀ r ∈ R, r.sevs.length ≤ 1000) (q : ZR) (p : Nat) (hp : plc q.rule R 0 (-1) = p) (hpR : p < R.length) :
    (firT R K q = true ∧ Calls Try.prog 59 #[.pointer (some ⟨mb + 5, 0, none⟩), .agg #[.int .i64 p, .int .i64 0, .string q.sensor]] wr fun e w' => (∃ m : Nat, e = .returned (.int .i64 m)) ∧ Below wr.heap.size wr w') ∨
    (firT R K q = false ∧ Calls Try.prog 59 #[.pointer (some ⟨mb + 5, 0, none⟩), .agg #[.int .i64 p, .int .i64 0, .string q.sensor]] wr fun e w' => e = .returned (.int .i64 (-1)) ∧ Below wr.heap.size wr w') := by
  have hlook := fun (l' : Int) => alarm_look R K ptrs hpl p l' q.sensor (by omega)
  have hptr : ∀ l', ¬ lastTo (alarmAt R K p l' q.sensor) K.length < 0 → wr.cell? ⟨ptrs.getD (lastTo (alarmAt R K p l' q.sensor) K.length).toNat 0, 0, none⟩ = some (.string (K.getD (lastTo (alarmAt R K p l' q.sensor) K.length).toNat noKey).state) := by
    intro l' hn
    have hlt := lastTo_lt (alarmAt R K p l' q.sensor) K.length
    have hat := lastTo_at (alarmAt R K p l' q.sensor) K.length (by omega)
    have ha : (lastTo (alarmAt R K p l' q.sensor) K.length).toNat < K.length := by omega
    generalize (lastTo (alarmAt R K p l' q.sensor) K.length).toNat = a at *
    rw [getD_at ptrs 0 a (by omega), getD_at K noKey a ha]
    have hmem : (K[a], ptrs[a]) ∈ K.zip ptrs := by
      have : (K.zip ptrs)[a]? = some (K[a], ptrs[a]) := by rw [List.getElem?_eq_getElem (by simp; omega)]; simp
      exact List.mem_of_getElem? this
    have hk : (keyA R K[a]).isSome = true := by
      unfold alarmAt at hat
      rw [getD_at K noKey a ha, ← keyA_same R K[a] p l' q.sensor (by omega)] at hat
      cases hka : keyA R K[a] with
      | none => rw [hka] at hat; simp at hat
      | some _ => rfl
    have := rel.ptr _ _ hmem hk
    simp [World.cell?, this, alCells]
  have hf : firT R K q = (!decide (lastTo (alarmAt R K p 0 q.sensor) K.length < 0) && ((K.getD (lastTo (alarmAt R K p 0 q.sensor) K.length).toNat noKey).state.toList == [70, 73, 82, 73, 78, 71])) := by
    unfold firT
    rw [hp]
    have : decide ((p : Int) < 0) = false := by simp
    rw [this]; simp
  by_cases h0 : lastTo (alarmAt R K p 0 q.sensor) K.length < 0
  · right
    refine ⟨by rw [hf]; simp [h0], ?_⟩
    have hg := hlook 0
    rw [if_pos h0] at hg
    exact firing_none rel.eng p q.sensor hg
  · have hg := hlook 0
    rw [if_neg h0] at hg
    have hc := hptr 0 h0
    by_cases hst : ((K.getD (lastTo (alarmAt R K p 0 q.sensor) K.length).toNat noKey).state.toList == [70, 73, 82, 73, 78, 71]) = true
    · left
      refine ⟨by rw [hf, hst]; simp [h0], ?_⟩
      obtain ⟨lb, f, g, h, _, _, d2, _, _, _, _, _⟩ := rel.rules p R[p] (by simp)
      refine firing_yes rel.eng p R[p].sevs.length lb q.sensor _ _ hg hc hst hpR d2 (hRs _ (List.getElem_mem hpR)) ?_
      intro l'
      have hg' := hlook l'
      by_cases h1 : lastTo (alarmAt R K p l' q.sensor) K.length < 0
      · rw [if_pos h1] at hg'; exact .inl hg'
      · rw [if_neg h1] at hg'; exact .inr ⟨_, _, hg', hptr l' h1⟩
    · right
      have hst' : ((K.getD (lastTo (alarmAt R K p 0 q.sensor) K.length).toNat noKey).state.toList == [70, 73, 82, 73, 78, 71]) = false := by simpa using hst
      exact ⟨by rw [hf, hst']; simp, firing_other rel.eng p q.sensor _ _ hg hc hst'⟩

set_option maxRecDepth 100000 in
theorem round4 (P0 : Act → World → Prop) (Q0 : Exit → Act → World → Prop) (q : ZR) (j n : Nat) (lE : Value) (E : List ZR) (hq : T'[j]? = some q) (hjn : j < n) (hn : n ≤ 4096) (hE : E.length ≤ 4096) (hpl : ptrs.length = K.length) (hRs : ∀ r ∈ R, r.sevs.length ≤ 1000)
    (rel : Rel3 w0 sa ta mb rb pb lr bx base kb sb tb rs R K S T' XS (K.zip ptrs) K K U wr l) (hown : wr.ownsRow base 74 13 lE E.length (E.flatMap (teCells K))) (u21 u22 u23 u24 u25 u171 u172 u173 u174 u175 u176 u177 u178 u179 u180 u181 u182 u183 u184 u185 u186 u187 u188 u189 u190 u191 u192 u193 u194 u195 u196 u197 u198 u199 u200 u201 u202 u203 u204 u205 u206 u207 u208 u209 u210 u211 u212 u213 u214 u215 u216 u217 u218 c1 c2 c3 c4 c5 c7 c8 c9 c11 c12 c13 c14 c15 c16 c17 c18 c20 c26 c27 c28 c29 c30 c31 c32 c33 c34 c35 c36 c37 c38 c39 c40 c41 c42 c43 c44 c45 c46 c47 c48 c49 c50 c51 c52 c53 c54 c55 c56 c57 c58 c59 c60 c61 c62 c63 c64 c65 c66 c67 c68 c69 c70 c71 c72 c73 c74 c75 c76 c77 c78 c79 c80 c81 c82 c83 c84 c85 c86 c87 c88 c89 c90 c91 c92 c93 c94 c95 c96 c97 c98 c99 c100 c101 c102 c103 c104 c105 c106 c107 c108 c109 c110 c111 c112 c113 c114 c115 c116 c117 c118 c119 c120 c121 c122 c123 c124 c125 c126 c127 c128 c129 c130 c131 c132 c133 c134 c135 c136 c137 c138 c139 c140 c141 c142 c143 c144 c145 c146 c147 c148 c149 c150 c151 c152 c153 c154 c155 c156 c157 c158 c159 c160 c161 c162 c163 c164 c165 c166 c167 c219 c220 : Value)
    (hend : ∀ (v21 v22 v23 v24 v25 v171 v172 v173 v174 v175 v176 v177 v178 v179 v180 v181 v182 v183 v184 v185 v186 v187 v188 v189 v190 v191 v192 v193 v194 v195 v196 v197 v198 v199 v200 v201 v202 v203 v204 v205 v206 v207 v208 v209 v210 v211 v212 v213 v214 v215 v216 v217 v218 lE' : Value) (w' : World), Rel3 w0 sa ta mb rb pb lr bx base kb sb tb rs R K S T' XS (K.zip ptrs) K K U w' l ∧ w'.ownsRow base 74 13 lE' (E ++ (if firT R K q then [] else [q])).length ((E ++ (if firT R K q then [] else [q])).flatMap (teCells K)) → P0 ⟨#[.pointer (some ⟨mb + 5, 0, none⟩), c1, c2, c3, c4, c5, .map (some pb), c7, c8, c9, .map (some lr), c11, c12, c13, c14, c15, c16, c17, c18, lE', c20, v21, v22, v23, v24, v25, c26, c27, c28, c29, c30, c31, c32, c33, c34, c35, c36, c37, c38, c39, c40, c41, c42, c43, c44, c45, c46, c47, c48, c49, c50, c51, c52, c53, c54, c55, c56, c57, c58, c59, c60, c61, c62, c63, c64, c65, c66, c67, c68, c69, c70, c71, c72, c73, c74, c75, c76, c77, c78, c79, c80, c81, c82, c83, c84, c85, c86, c87, c88, c89, c90, c91, c92, c93, c94, c95, c96, c97, c98, c99, c100, c101, c102, c103, c104, c105, c106, c107, c108, c109, c110, c111, c112, c113, c114, c115, c116, c117, c118, c119, c120, c121, c122, c123, c124, c125, c126, c127, c128, c129, c130, c131, c132, c133, c134, c135, c136, c137, c138, c139, c140, c141, c142, c143, c144, c145, c146, c147, c148, c149, c150, c151, c152, c153, c154, c155, c156, c157, c158, c159, c160, c161, c162, c163, c164, c165, c166, c167, .slice (some ⟨tb, 0, none⟩) n n, .int .i64 n, .int .i64 ((j + 1 : Nat) : Int), v171, v172, v173, v174, v175, v176, v177, v178, v179, v180, v181, v182, v183, v184, v185, v186, v187, v188, v189, v190, v191, v192, v193, v194, v195, v196, v197, v198, v199, v200, v201, v202, v203, v204, v205, v206, v207, v208, v209, v210, v211, v212, v213, v214, v215, v216, v217, v218, c219, c220], []⟩ w') :
    Code.wp Try.prog body4 (Exit.then P0 Q0) ⟨#[.pointer (some ⟨mb + 5, 0, none⟩), c1, c2, c3, c4, c5, .map (some pb), c7, c8, c9, .map (some lr), c11, c12, c13, c14, c15, c16, c17, c18, lE, c20, u21, u22, u23, u24, u25, c26, c27, c28, c29, c30, c31, c32, c33, c34, c35, c36, c37, c38, c39, c40, c41, c42, c43, c44, c45, c46, c47, c48, c49, c50, c51, c52, c53, c54, c55, c56, c57, c58, c59, c60, c61, c62, c63, c64, c65, c66, c67, c68, c69, c70, c71, c72, c73, c74, c75, c76, c77, c78, c79, c80, c81, c82, c83, c84, c85, c86, c87, c88, c89, c90, c91, c92, c93, c94, c95, c96, c97, c98, c99, c100, c101, c102, c103, c104, c105, c106, c107, c108, c109, c110, c111, c112, c113, c114, c115, c116, c117, c118, c119, c120, c121, c122, c123, c124, c125, c126, c127, c128, c129, c130, c131, c132, c133, c134, c135, c136, c137, c138, c139, c140, c141, c142, c143, c144, c145, c146, c147, c148, c149, c150, c151, c152, c153, c154, c155, c156, c157, c158, c159, c160, c161, c162, c163, c164, c165, c166, c167, .slice (some ⟨tb, 0, none⟩) n n, .int .i64 n, .int .i64 j, u171, u172, u173, u174, u175, u176, u177, u178, u179, u180, u181, u182, u183, u184, u185, u186, u187, u188, u189, u190, u191, u192, u193, u194, u195, u196, u197, u198, u199, u200, u201, u202, u203, u204, u205, u206, u207, u208, u209, u210, u211, u212, u213, u214, u215, u216, u217, u218, c219, c220], []⟩ wr := by
  have hge : -1 ≤ plc q.rule R 0 (-1) := plc_ge q.rule R 0 (-1) (by omega)
  have hlt : plc q.rule R 0 (-1) < 0 + R.length := by have := plc_lt q.rule R 0 (-1) (by omega); simpa using this
  have hlr := lr_look K q.rule q.sensor
  have e1 : firT R K q = false → ∀ (lE' : Value) (w' : World), Rel3 w0 sa ta mb rb pb lr bx base kb sb tb rs R K S T' XS (K.zip ptrs) K K U w' l ∧ w'.ownsRow base 74 13 lE' (E.length + 1) (E.flatMap (teCells K) ++ teCells K q) → Rel3 w0 sa ta mb rb pb lr bx base kb sb tb rs R K S T' XS (K.zip ptrs) K K U w' l ∧ w'.ownsRow base 74 13 lE' (E ++ (if firT R K q then [] else [q])).length ((E ++ (if firT R K q then [] else [q])).flatMap (teCells K)) := by
    intro hf lE' w' h
    rw [hf]
    refine ⟨h.1, ?_⟩
    rw [if_neg (by simp), List.length_append, List.flatMap_append]
    simpa using h.2
  by_cases hp : plc q.rule R 0 (-1) < 0
  · have hf : firT R K q = false := by unfold firT; simp [hp]
    by_cases hl : lastTo (rdAt K q.rule q.sensor) K.length < 0
    · rw [if_pos hl] at hlr
      exact w4_npn P0 Q0 q j n lE E hq hjn hn hE hp hlr (by unfold teCells endRd tcs; rw [if_pos hl]) rel hown u21 u22 u23 u24 u25 u171 u172 u173 u174 u175 u176 u177 u178 u179 u180 u181 u182 u183 u184 u185 u186 u187 u188 u189 u190 u191 u192 u193 u194 u195 u196 u197 u198 u199 u200 u201 u202 u203 u204 u205 u206 u207 u208 u209 u210 u211 u212 u213 u214 u215 u216 u217 u218 c1 c2 c3 c4 c5 c7 c8 c9 c11 c12 c13 c14 c15 c16 c17 c18 c20 c26 c27 c28 c29 c30 c31 c32 c33 c34 c35 c36 c37 c38 c39 c40 c41 c42 c43 c44 c45 c46 c47 c48 c49 c50 c51 c52 c53 c54 c55 c56 c57 c58 c59 c60 c61 c62 c63 c64 c65 c66 c67 c68 c69 c70 c71 c72 c73 c74 c75 c76 c77 c78 c79 c80 c81 c82 c83 c84 c85 c86 c87 c88 c89 c90 c91 c92 c93 c94 c95 c96 c97 c98 c99 c100 c101 c102 c103 c104 c105 c106 c107 c108 c109 c110 c111 c112 c113 c114 c115 c116 c117 c118 c119 c120 c121 c122 c123 c124 c125 c126 c127 c128 c129 c130 c131 c132 c133 c134 c135 c136 c137 c138 c139 c140 c141 c142 c143 c144 c145 c146 c147 c148 c149 c150 c151 c152 c153 c154 c155 c156 c157 c158 c159 c160 c161 c162 c163 c164 c165 c166 c167 c219 c220 (fun v21 v22 v23 v24 v25 v171 v172 v173 v174 v175 v176 v177 v178 v179 v180 v181 v182 v183 v184 v185 v186 v187 v188 v189 v190 v191 v192 v193 v194 v195 v196 v197 v198 v199 v200 v201 v202 v203 v204 v205 v206 v207 v208 v209 v210 v211 v212 v213 v214 v215 v216 v217 v218 lE2 w2 h2 => hend v21 v22 v23 v24 v25 v171 v172 v173 v174 v175 v176 v177 v178 v179 v180 v181 v182 v183 v184 v185 v186 v187 v188 v189 v190 v191 v192 v193 v194 v195 v196 v197 v198 v199 v200 v201 v202 v203 v204 v205 v206 v207 v208 v209 v210 v211 v212 v213 v214 v215 v216 v217 v218 lE2 w2 (e1 hf lE2 w2 h2))
    · rw [if_neg hl] at hlr
      exact w4_nps P0 Q0 q j n lE E hq hjn hn hE hp _ hlr (by unfold teCells endRd tcs; rw [if_neg hl]) rel hown u21 u22 u23 u24 u25 u171 u172 u173 u174 u175 u176 u177 u178 u179 u180 u181 u182 u183 u184 u185 u186 u187 u188 u189 u190 u191 u192 u193 u194 u195 u196 u197 u198 u199 u200 u201 u202 u203 u204 u205 u206 u207 u208 u209 u210 u211 u212 u213 u214 u215 u216 u217 u218 c1 c2 c3 c4 c5 c7 c8 c9 c11 c12 c13 c14 c15 c16 c17 c18 c20 c26 c27 c28 c29 c30 c31 c32 c33 c34 c35 c36 c37 c38 c39 c40 c41 c42 c43 c44 c45 c46 c47 c48 c49 c50 c51 c52 c53 c54 c55 c56 c57 c58 c59 c60 c61 c62 c63 c64 c65 c66 c67 c68 c69 c70 c71 c72 c73 c74 c75 c76 c77 c78 c79 c80 c81 c82 c83 c84 c85 c86 c87 c88 c89 c90 c91 c92 c93 c94 c95 c96 c97 c98 c99 c100 c101 c102 c103 c104 c105 c106 c107 c108 c109 c110 c111 c112 c113 c114 c115 c116 c117 c118 c119 c120 c121 c122 c123 c124 c125 c126 c127 c128 c129 c130 c131 c132 c133 c134 c135 c136 c137 c138 c139 c140 c141 c142 c143 c144 c145 c146 c147 c148 c149 c150 c151 c152 c153 c154 c155 c156 c157 c158 c159 c160 c161 c162 c163 c164 c165 c166 c167 c219 c220 (fun v21 v22 v23 v24 v25 v171 v172 v173 v174 v175 v176 v177 v178 v179 v180 v181 v182 v183 v184 v185 v186 v187 v188 v189 v190 v191 v192 v193 v194 v195 v196 v197 v198 v199 v200 v201 v202 v203 v204 v205 v206 v207 v208 v209 v210 v211 v212 v213 v214 v215 v216 v217 v218 lE2 w2 h2 => hend v21 v22 v23 v24 v25 v171 v172 v173 v174 v175 v176 v177 v178 v179 v180 v181 v182 v183 v184 v185 v186 v187 v188 v189 v190 v191 v192 v193 v194 v195 v196 v197 v198 v199 v200 v201 v202 v203 v204 v205 v206 v207 v208 v209 v210 v211 v212 v213 v214 v215 v216 v217 v218 lE2 w2 (e1 hf lE2 w2 h2))
  obtain ⟨p, hp2⟩ : ∃ p : Nat, plc q.rule R 0 (-1) = p := ⟨(plc q.rule R 0 (-1)).toNat, by omega⟩
  have hpR : p < R.length := by omega
  cases hf : firT R K q with
  | true =>
    refine w4_f P0 Q0 q j n lE E hq hjn hn hE p hp2 (fun W hW => ?_) rel hown u21 u22 u23 u24 u25 u171 u172 u173 u174 u175 u176 u177 u178 u179 u180 u181 u182 u183 u184 u185 u186 u187 u188 u189 u190 u191 u192 u193 u194 u195 u196 u197 u198 u199 u200 u201 u202 u203 u204 u205 u206 u207 u208 u209 u210 u211 u212 u213 u214 u215 u216 u217 u218 c1 c2 c3 c4 c5 c7 c8 c9 c11 c12 c13 c14 c15 c16 c17 c18 c20 c26 c27 c28 c29 c30 c31 c32 c33 c34 c35 c36 c37 c38 c39 c40 c41 c42 c43 c44 c45 c46 c47 c48 c49 c50 c51 c52 c53 c54 c55 c56 c57 c58 c59 c60 c61 c62 c63 c64 c65 c66 c67 c68 c69 c70 c71 c72 c73 c74 c75 c76 c77 c78 c79 c80 c81 c82 c83 c84 c85 c86 c87 c88 c89 c90 c91 c92 c93 c94 c95 c96 c97 c98 c99 c100 c101 c102 c103 c104 c105 c106 c107 c108 c109 c110 c111 c112 c113 c114 c115 c116 c117 c118 c119 c120 c121 c122 c123 c124 c125 c126 c127 c128 c129 c130 c131 c132 c133 c134 c135 c136 c137 c138 c139 c140 c141 c142 c143 c144 c145 c146 c147 c148 c149 c150 c151 c152 c153 c154 c155 c156 c157 c158 c159 c160 c161 c162 c163 c164 c165 c166 c167 c219 c220 (fun v21 v22 v23 v24 v25 v171 v172 v173 v174 v175 v176 v177 v178 v179 v180 v181 v182 v183 v184 v185 v186 v187 v188 v189 v190 v191 v192 v193 v194 v195 v196 v197 v198 v199 v200 v201 v202 v203 v204 v205 v206 v207 v208 v209 v210 v211 v212 v213 v214 v215 v216 v217 v218 lE2 w2 h2 => hend v21 v22 v23 v24 v25 v171 v172 v173 v174 v175 v176 v177 v178 v179 v180 v181 v182 v183 v184 v185 v186 v187 v188 v189 v190 v191 v192 v193 v194 v195 v196 v197 v198 v199 v200 v201 v202 v203 v204 v205 v206 v207 v208 v209 v210 v211 v212 v213 v214 v215 v216 v217 v218 lE2 w2 ?_)
    · rcases firing_rel hW hpl hRs q p hp2 hpR with ⟨_, h⟩ | ⟨h, _⟩
      · exact h
      · rw [hf] at h; cases h
    · rw [hf]; simpa using h2
  | false =>
    have hF : Hid (∀ W, Rel3 w0 sa ta mb rb pb lr bx base kb sb tb rs R K S T' XS (K.zip ptrs) K K U W l → Calls Try.prog 59 #[.pointer (some ⟨mb + 5, 0, none⟩), .agg #[.int .i64 p, .int .i64 0, .string q.sensor]] W fun e w' => e = .returned (.int .i64 (-1)) ∧ Below W.heap.size W w') := by
      intro W hW
      rcases firing_rel hW hpl hRs q p hp2 hpR with ⟨h, _⟩ | ⟨_, h⟩
      · rw [hf] at h; cases h
      · exact h
    by_cases hl : lastTo (rdAt K q.rule q.sensor) K.length < 0
    · rw [if_pos hl] at hlr
      exact w4_pln P0 Q0 q j n lE E hq hjn hn hE p hp2 hF hlr (by unfold teCells endRd tcs; rw [if_pos hl]) rel hown u21 u22 u23 u24 u25 u171 u172 u173 u174 u175 u176 u177 u178 u179 u180 u181 u182 u183 u184 u185 u186 u187 u188 u189 u190 u191 u192 u193 u194 u195 u196 u197 u198 u199 u200 u201 u202 u203 u204 u205 u206 u207 u208 u209 u210 u211 u212 u213 u214 u215 u216 u217 u218 c1 c2 c3 c4 c5 c7 c8 c9 c11 c12 c13 c14 c15 c16 c17 c18 c20 c26 c27 c28 c29 c30 c31 c32 c33 c34 c35 c36 c37 c38 c39 c40 c41 c42 c43 c44 c45 c46 c47 c48 c49 c50 c51 c52 c53 c54 c55 c56 c57 c58 c59 c60 c61 c62 c63 c64 c65 c66 c67 c68 c69 c70 c71 c72 c73 c74 c75 c76 c77 c78 c79 c80 c81 c82 c83 c84 c85 c86 c87 c88 c89 c90 c91 c92 c93 c94 c95 c96 c97 c98 c99 c100 c101 c102 c103 c104 c105 c106 c107 c108 c109 c110 c111 c112 c113 c114 c115 c116 c117 c118 c119 c120 c121 c122 c123 c124 c125 c126 c127 c128 c129 c130 c131 c132 c133 c134 c135 c136 c137 c138 c139 c140 c141 c142 c143 c144 c145 c146 c147 c148 c149 c150 c151 c152 c153 c154 c155 c156 c157 c158 c159 c160 c161 c162 c163 c164 c165 c166 c167 c219 c220 (fun v21 v22 v23 v24 v25 v171 v172 v173 v174 v175 v176 v177 v178 v179 v180 v181 v182 v183 v184 v185 v186 v187 v188 v189 v190 v191 v192 v193 v194 v195 v196 v197 v198 v199 v200 v201 v202 v203 v204 v205 v206 v207 v208 v209 v210 v211 v212 v213 v214 v215 v216 v217 v218 lE2 w2 h2 => hend v21 v22 v23 v24 v25 v171 v172 v173 v174 v175 v176 v177 v178 v179 v180 v181 v182 v183 v184 v185 v186 v187 v188 v189 v190 v191 v192 v193 v194 v195 v196 v197 v198 v199 v200 v201 v202 v203 v204 v205 v206 v207 v208 v209 v210 v211 v212 v213 v214 v215 v216 v217 v218 lE2 w2 (e1 hf lE2 w2 h2))
    · rw [if_neg hl] at hlr
      exact w4_pls P0 Q0 q j n lE E hq hjn hn hE p hp2 hF _ hlr (by unfold teCells endRd tcs; rw [if_neg hl]) rel hown u21 u22 u23 u24 u25 u171 u172 u173 u174 u175 u176 u177 u178 u179 u180 u181 u182 u183 u184 u185 u186 u187 u188 u189 u190 u191 u192 u193 u194 u195 u196 u197 u198 u199 u200 u201 u202 u203 u204 u205 u206 u207 u208 u209 u210 u211 u212 u213 u214 u215 u216 u217 u218 c1 c2 c3 c4 c5 c7 c8 c9 c11 c12 c13 c14 c15 c16 c17 c18 c20 c26 c27 c28 c29 c30 c31 c32 c33 c34 c35 c36 c37 c38 c39 c40 c41 c42 c43 c44 c45 c46 c47 c48 c49 c50 c51 c52 c53 c54 c55 c56 c57 c58 c59 c60 c61 c62 c63 c64 c65 c66 c67 c68 c69 c70 c71 c72 c73 c74 c75 c76 c77 c78 c79 c80 c81 c82 c83 c84 c85 c86 c87 c88 c89 c90 c91 c92 c93 c94 c95 c96 c97 c98 c99 c100 c101 c102 c103 c104 c105 c106 c107 c108 c109 c110 c111 c112 c113 c114 c115 c116 c117 c118 c119 c120 c121 c122 c123 c124 c125 c126 c127 c128 c129 c130 c131 c132 c133 c134 c135 c136 c137 c138 c139 c140 c141 c142 c143 c144 c145 c146 c147 c148 c149 c150 c151 c152 c153 c154 c155 c156 c157 c158 c159 c160 c161 c162 c163 c164 c165 c166 c167 c219 c220 (fun v21 v22 v23 v24 v25 v171 v172 v173 v174 v175 v176 v177 v178 v179 v180 v181 v182 v183 v184 v185 v186 v187 v188 v189 v190 v191 v192 v193 v194 v195 v196 v197 v198 v199 v200 v201 v202 v203 v204 v205 v206 v207 v208 v209 v210 v211 v212 v213 v214 v215 v216 v217 v218 lE2 w2 h2 => hend v21 v22 v23 v24 v25 v171 v172 v173 v174 v175 v176 v177 v178 v179 v180 v181 v182 v183 v184 v185 v186 v187 v188 v189 v190 v191 v192 v193 v194 v195 v196 v197 v198 v199 v200 v201 v202 v203 v204 v205 v206 v207 v208 v209 v210 v211 v212 v213 v214 v215 v216 v217 v218 lE2 w2 (e1 hf lE2 w2 h2))
end
end Go.Proofs.Qxb6605676a.Kz
