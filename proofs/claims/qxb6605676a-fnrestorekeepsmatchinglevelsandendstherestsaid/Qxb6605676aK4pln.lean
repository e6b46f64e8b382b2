import Derived.Test.Qxb6605676aKz27
namespace Go.Proofs.Qxb6605676a.Kz
set_option linter.unusedVariables false
set_option linter.unusedSimpArgs false
open Go.RowKit Go.Proofs.Qxb6605676a.Mp Go.Proofs.Qxb6605676a.Tm Go.Proofs.Qxb6605676a.En
open Go.ChangeMaps (setBlock heap_setBlock_same)

section
attribute [local go_sem] Rm.run_store_float
variable {mb rb pb lr bx base kb sb tb : Nat} {rs : Array Value} {R : List RuleD} {K : List ZK} {S : List ZS} {T' : List ZR} {w0 : World} {sa ta : Option Addr} {XS : List ZS} {XA : List (ZK × Nat)} {XC XL U : List ZK} {wr : World} {l : Value}

set_option maxHeartbeats 3200000 in
set_option maxRecDepth 100000 in
theorem w4_pln (P0 : Act → World → Prop) (Q0 : Exit → Act → World → Prop) (q : ZR) (j n : Nat) (lE : Value) (E : List ZR) (hq : T'[j]? = some q) (hjn : j < n) (hn : n ≤ 4096) (hE : E.length ≤ 4096) (p : Nat) (hp : plc q.rule R 0 (-1) = p) (hF : Hid (∀ W, Rel3 w0 sa ta mb rb pb lr bx base kb sb tb rs R K S T' XS XA XC XL U W l → Calls Try.prog 59 #[.pointer (some ⟨mb + 5, 0, none⟩), .agg #[.int .i64 p, .int .i64 0, .string q.sensor]] W fun e w' => e = .returned (.int .i64 (-1)) ∧ Below W.heap.size W w')) (hlk : Mp.get sameP (q.rule, q.sensor) (lrMap XL) = none) (hcs : teCells K q = tcs q [.int .u64 (q.ts % 1000000000), .int .i64 (q.ts / 1000000000), .pointer none, .string q.sensor, .string q.metric, .float .f64 q.val])
    (rel : Rel3 w0 sa ta mb rb pb lr bx base kb sb tb rs R K S T' XS XA XC XL U wr l) (hown : wr.ownsRow base 74 13 lE E.length (E.flatMap (teCells K))) (u21 u22 u23 u24 u25 u171 u172 u173 u174 u175 u176 u177 u178 u179 u180 u181 u182 u183 u184 u185 u186 u187 u188 u189 u190 u191 u192 u193 u194 u195 u196 u197 u198 u199 u200 u201 u202 u203 u204 u205 u206 u207 u208 u209 u210 u211 u212 u213 u214 u215 u216 u217 u218 c1 c2 c3 c4 c5 c7 c8 c9 c11 c12 c13 c14 c15 c16 c17 c18 c20 c26 c27 c28 c29 c30 c31 c32 c33 c34 c35 c36 c37 c38 c39 c40 c41 c42 c43 c44 c45 c46 c47 c48 c49 c50 c51 c52 c53 c54 c55 c56 c57 c58 c59 c60 c61 c62 c63 c64 c65 c66 c67 c68 c69 c70 c71 c72 c73 c74 c75 c76 c77 c78 c79 c80 c81 c82 c83 c84 c85 c86 c87 c88 c89 c90 c91 c92 c93 c94 c95 c96 c97 c98 c99 c100 c101 c102 c103 c104 c105 c106 c107 c108 c109 c110 c111 c112 c113 c114 c115 c116 c117 c118 c119 c120 c121 c122 c123 c124 c125 c126 c127 c128 c129 c130 c131 c132 c133 c134 c135 c136 c137 c138 c139 c140 c141 c142 c143 c144 c145 c146 c147 c148 c149 c150 c151 c152 c153 c154 c155 c156 c157 c158 c159 c160 c161 c162 c163 c164 c165 c166 c167 c219 c220 : Value)
    (hend : ∀ (v21 v22 v23 v24 v25 v171 v172 v173 v174 v175 v176 v177 v178 v179 v180 v181 v182 v183 v184 v185 v186 v187 v188 v189 v190 v191 v192 v193 v194 v195 v196 v197 v198 v199 v200 v201 v202 v203 v204 v205 v206 v207 v208 v209 v210 v211 v212 v213 v214 v215 v216 v217 v218 lE' : Value) (w' : World), Rel3 w0 sa ta mb rb pb lr bx base kb sb tb rs R K S T' XS XA XC XL U w' l ∧ w'.ownsRow base 74 13 lE' (E.length + 1) (E.flatMap (teCells K) ++ teCells K q) → P0 ⟨#[.pointer (some ⟨mb + 5, 0, none⟩), c1, c2, c3, c4, c5, .map (some pb), c7, c8, c9, .map (some lr), c11, c12, c13, c14, c15, c16, c17, c18, lE', c20, v21, v22, v23, v24, v25, c26, c27, c28, c29, c30, c31, c32, c33, c34, c35, c36, c37, c38, c39, c40, c41, c42, c43, c44, c45, c46, c47, c48, c49, c50, c51, c52, c53, c54, c55, c56, c57, c58, c59, c60, c61, c62, c63, c64, c65, c66, c67, c68, c69, c70, c71, c72, c73, c74, c75, c76, c77, c78, c79, c80, c81, c82, c83, c84, c85, c86, c87, c88, c89, c90, c91, c92, c93, c94, c95, c96, c97, c98, c99, c100, c101, c102, c103, c104, c105, c106, c107, c108, c109, c110, c111, c112, c113, c114, c115, c116, c117, c118, c119, c120, c121, c122, c123, c124, c125, c126, c127, c128, c129, c130, c131, c132, c133, c134, c135, c136, c137, c138, c139, c140, c141, c142, c143, c144, c145, c146, c147, c148, c149, c150, c151, c152, c153, c154, c155, c156, c157, c158, c159, c160, c161, c162, c163, c164, c165, c166, c167, .slice (some ⟨tb, 0, none⟩) n n, .int .i64 n, .int .i64 ((j + 1 : Nat) : Int), v171, v172, v173, v174, v175, v176, v177, v178, v179, v180, v181, v182, v183, v184, v185, v186, v187, v188, v189, v190, v191, v192, v193, v194, v195, v196, v197, v198, v199, v200, v201, v202, v203, v204, v205, v206, v207, v208, v209, v210, v211, v212, v213, v214, v215, v216, v217, v218, c219, c220], []⟩ w') :
    Code.wp Try.prog body4 (Exit.then P0 Q0) ⟨#[.pointer (some ⟨mb + 5, 0, none⟩), c1, c2, c3, c4, c5, .map (some pb), c7, c8, c9, .map (some lr), c11, c12, c13, c14, c15, c16, c17, c18, lE, c20, u21, u22, u23, u24, u25, c26, c27, c28, c29, c30, c31, c32, c33, c34, c35, c36, c37, c38, c39, c40, c41, c42, c43, c44, c45, c46, c47, c48, c49, c50, c51, c52, c53, c54, c55, c56, c57, c58, c59, c60, c61, c62, c63, c64, c65, c66, c67, c68, c69, c70, c71, c72, c73, c74, c75, c76, c77, c78, c79, c80, c81, c82, c83, c84, c85, c86, c87, c88, c89, c90, c91, c92, c93, c94, c95, c96, c97, c98, c99, c100, c101, c102, c103, c104, c105, c106, c107, c108, c109, c110, c111, c112, c113, c114, c115, c116, c117, c118, c119, c120, c121, c122, c123, c124, c125, c126, c127, c128, c129, c130, c131, c132, c133, c134, c135, c136, c137, c138, c139, c140, c141, c142, c143, c144, c145, c146, c147, c148, c149, c150, c151, c152, c153, c154, c155, c156, c157, c158, c159, c160, c161, c162, c163, c164, c165, c166, c167, .slice (some ⟨tb, 0, none⟩) n n, .int .i64 n, .int .i64 j, u171, u172, u173, u174, u175, u176, u177, u178, u179, u180, u181, u182, u183, u184, u185, u186, u187, u188, u189, u190, u191, u192, u193, u194, u195, u196, u197, u198, u199, u200, u201, u202, u203, u204, u205, u206, u207, u208, u209, u210, u211, u212, u213, u214, u215, u216, u217, u218, c219, c220], []⟩ wr := by
  conv => arg 2; whnf
  obtain ⟨W2, HW2, REL, hks, hown2⟩ := open4 rel q hown
  have HR2 : Hid (wr.rangeAt tb (j * 13) (tnCells q)) := rel.trow j q hq
  have hi107 : (Try.prog.info? 74).map (·.size) = some (tnCells q).length := by kernel_rfl
  have hi108 : (Try.prog.info? 74).map (·.size) = some (tnCells q).toArray.size := by kernel_rfl
  generalize hkq : wr.heap.size = kq at hks
  have k0 : W2.cell? ⟨kq, 0, none⟩ = some (.string q.rule) := hks.1 0 _ rfl
  have k1 : W2.cell? ⟨kq, 1, none⟩ = some (.string q.sev) := hks.1 1 _ rfl
  have k3 : W2.cell? ⟨kq, 3, none⟩ = some (.int .u64 (q.ts % 1000000000)) := hks.1 3 _ rfl
  have k4 : W2.cell? ⟨kq, 4, none⟩ = some (.int .i64 (q.ts / 1000000000)) := hks.1 4 _ rfl
  have k5 : W2.cell? ⟨kq, 5, none⟩ = some (.pointer none) := hks.1 5 _ rfl
  have k6 : W2.cell? ⟨kq, 6, none⟩ = some (.string q.sensor) := hks.1 6 _ rfl
  have k7 : W2.cell? ⟨kq, 7, none⟩ = some (.string q.metric) := hks.1 7 _ rfl
  have k8 : W2.cell? ⟨kq, 8, none⟩ = some (.float .f64 q.val) := hks.1 8 _ rfl
  have k9 : W2.cell? ⟨kq, 9, none⟩ = some (.int .u64 (q.raised % 1000000000)) := hks.1 9 _ rfl
  have k10 : W2.cell? ⟨kq, 10, none⟩ = some (.int .i64 (q.raised / 1000000000)) := hks.1 10 _ rfl
  have k11 : W2.cell? ⟨kq, 11, none⟩ = some (.pointer none) := hks.1 11 _ rfl
  have k12 : W2.cell? ⟨kq, 12, none⟩ = some (.bool false) := hks.1 12 _ rfl
  have hkl := hks.2
  have HREL : Hid (Rel3 w0 sa ta mb rb pb lr bx base kb sb tb rs R K S T' XS XA XC XL U W2 l) := REL
  have HOWN : Hid (W2.ownsRow base 74 13 lE E.length (E.flatMap (teCells K))) := hown2
  have hlp := REL.places.look keyTy9 Try.underlying111 (z := .int .i64 0) (fun w => by kernel_rfl) q.rule true
  rw [get_places] at hlp
  have hnp : ¬ plc q.rule R 0 (-1) < 0 := by omega
  rw [if_neg hnp, hp] at hlp
  simp only [sv, if_true, Option.getD_some, Option.isSome_some] at hlp
  clear hnp
  have HF2 : Hid _ := hF.out W2 REL
  clear rel REL hks hown hown2 hF
  subst hkq
  go_wp2_with (first
    | (with_reducible show wpList _ _ _ (⟨some 173, .load 74 (.tmp 172), _, _, _, _⟩ :: _) _ _; refine wpList_load_mid ?_ 74 (.tmp 172) ?_ tb (j * 13) ?_ (tnCells q) _ HR2.out Try.underlying74 rfl hi107 ?_; exact rfl; exact rfl; simp [Act.eval])
    | (with_reducible show wpList _ _ _ (⟨none, .store 74 (.tmp 21) (.tmp 173), _, _, _, _⟩ :: _) _ _; refine wpList_store_new ?_ 74 (.tmp 21) (.tmp 173) ?_ _ (tnCells q).toArray ?_ ?_ hi108 ?_ (tnOne q) ?_; exact rfl; exact rfl; simp [Act.eval]; simp [Act.eval]; simp [tnCells]; rw [← HW2.out])
    | fail)
  refine Calls.mono HF2.out ?_
  rintro e w4 ⟨rfl, hb4⟩
  have REL4 := HREL.out.below hb4
  have HREL4 : Hid (Rel3 w0 sa ta mb rb pb lr bx base kb sb tb rs R K S T' XS XA XC XL U w4 l) := REL4
  have HOWN4 : Hid (w4.ownsRow base 74 13 lE E.length (E.flatMap (teCells K))) := owns_below HOWN.out hb4
  replace k0 : w4.cell? ⟨wr.heap.size, 0, none⟩ = some (.string q.rule) := (hb4.cell hkl).trans k0
  replace k1 : w4.cell? ⟨wr.heap.size, 1, none⟩ = some (.string q.sev) := (hb4.cell hkl).trans k1
  replace k3 : w4.cell? ⟨wr.heap.size, 3, none⟩ = some (.int .u64 (q.ts % 1000000000)) := (hb4.cell hkl).trans k3
  replace k4 : w4.cell? ⟨wr.heap.size, 4, none⟩ = some (.int .i64 (q.ts / 1000000000)) := (hb4.cell hkl).trans k4
  replace k5 : w4.cell? ⟨wr.heap.size, 5, none⟩ = some (.pointer none) := (hb4.cell hkl).trans k5
  replace k6 : w4.cell? ⟨wr.heap.size, 6, none⟩ = some (.string q.sensor) := (hb4.cell hkl).trans k6
  replace k7 : w4.cell? ⟨wr.heap.size, 7, none⟩ = some (.string q.metric) := (hb4.cell hkl).trans k7
  replace k8 : w4.cell? ⟨wr.heap.size, 8, none⟩ = some (.float .f64 q.val) := (hb4.cell hkl).trans k8
  replace k9 : w4.cell? ⟨wr.heap.size, 9, none⟩ = some (.int .u64 (q.raised % 1000000000)) := (hb4.cell hkl).trans k9
  replace k10 : w4.cell? ⟨wr.heap.size, 10, none⟩ = some (.int .i64 (q.raised / 1000000000)) := (hb4.cell hkl).trans k10
  replace k11 : w4.cell? ⟨wr.heap.size, 11, none⟩ = some (.pointer none) := (hb4.cell hkl).trans k11
  replace k12 : w4.cell? ⟨wr.heap.size, 12, none⟩ = some (.bool false) := (hb4.cell hkl).trans k12
  replace hkl := Nat.lt_of_lt_of_le hkl hb4.size
  clear hlp HF2 hb4
  have hl2 := HREL4.out.lrs.look keyTy126 Try.underlying125 (z := .agg #[.int .u64 0, .int .i64 0, .pointer none, .string ⟨#[]⟩, .string ⟨#[]⟩, .float .f64 0]) (fun w => by kernel_rfl) (q.rule, q.sensor) true
  rw [hlk] at hl2
  simp only [pv, rdv, if_true, Option.getD_none, Option.isSome_none, Option.getD_some, Option.isSome_some] at hl2
  have HLK : Hid (Mp.get sameP (q.rule, q.sensor) (lrMap XL) = none) := hlk
  clear hlk
  obtain ⟨i74, z74, hi7, hz7, hs7, hby7, hzs7⟩ := info74'
  have HOW : Hid (((w4.alloc (.cells #[.int .u64 (q.ts % 1000000000), .int .i64 (q.ts / 1000000000), .pointer none, .string q.sensor, .string q.metric, .float .f64 q.val] 69)).alloc (.cells (tcs q [.int .u64 (q.ts % 1000000000), .int .i64 (q.ts / 1000000000), .pointer none, .string q.sensor, .string q.metric, .float .f64 q.val]).toArray 74)).ownsRow base 74 13 lE E.length (E.flatMap (teCells K))) := (HOWN4.out.alloc _).alloc _
  have HBS : Hid (base ≤ ((w4.alloc (.cells #[.int .u64 (q.ts % 1000000000), .int .i64 (q.ts / 1000000000), .pointer none, .string q.sensor, .string q.metric, .float .f64 q.val] 69)).alloc (.cells (tcs q [.int .u64 (q.ts % 1000000000), .int .i64 (q.ts / 1000000000), .pointer none, .string q.sensor, .string q.metric, .float .f64 q.val]).toArray 74)).heap.size) := Nat.le_trans HREL4.out.hbase (by simp; omega)
  have HBL : Hid (Below w4.heap.size w4 ((w4.alloc (.cells #[.int .u64 (q.ts % 1000000000), .int .i64 (q.ts / 1000000000), .pointer none, .string q.sensor, .string q.metric, .float .f64 q.val] 69)).alloc (.cells (tcs q [.int .u64 (q.ts % 1000000000), .int .i64 (q.ts / 1000000000), .pointer none, .string q.sensor, .string q.metric, .float .f64 q.val]).toArray 74))) := ((Below.refl _ _).alloc (Nat.le_refl _) _).alloc (by simp) _
  have HCS : Hid (teCells K q = tcs q [.int .u64 (q.ts % 1000000000), .int .i64 (q.ts / 1000000000), .pointer none, .string q.sensor, .string q.metric, .float .f64 q.val]) := hcs
  have HTN : Hid (∀ j u, (tcs q [.int .u64 (q.ts % 1000000000), .int .i64 (q.ts / 1000000000), .pointer none, .string q.sensor, .string q.metric, .float .f64 q.val])[j]? = some u → ((w4.alloc (.cells #[.int .u64 (q.ts % 1000000000), .int .i64 (q.ts / 1000000000), .pointer none, .string q.sensor, .string q.metric, .float .f64 q.val] 69)).alloc (.cells (tcs q [.int .u64 (q.ts % 1000000000), .int .i64 (q.ts / 1000000000), .pointer none, .string q.sensor, .string q.metric, .float .f64 q.val]).toArray 74)).cell? ((⟨w4.heap.size + 1, 0, none⟩ : Addr).add j) = some u) := by
    have h := te_new (w4.alloc (.cells #[.int .u64 (q.ts % 1000000000), .int .i64 (q.ts / 1000000000), .pointer none, .string q.sensor, .string q.metric, .float .f64 q.val] 69)) (tcs q [.int .u64 (q.ts % 1000000000), .int .i64 (q.ts / 1000000000), .pointer none, .string q.sensor, .string q.metric, .float .f64 q.val])
    rwa [show (w4.alloc (.cells #[.int .u64 (q.ts % 1000000000), .int .i64 (q.ts / 1000000000), .pointer none, .string q.sensor, .string q.metric, .float .f64 q.val] 69)).heap.size = w4.heap.size + 1 from by simp] at h
  clear hcs
  go_wp2_with (first
    | (with_reducible show wpList _ _ _ (⟨some 173, .load 74 (.tmp 172), _, _, _, _⟩ :: _) _ _; refine wpList_load_mid ?_ 74 (.tmp 172) ?_ tb (j * 13) ?_ (tnCells q) _ HR2.out Try.underlying74 rfl hi107 ?_; exact rfl; exact rfl; simp [Act.eval])
    | (with_reducible show wpList _ _ _ (⟨none, .store 74 (.tmp 21) (.tmp 173), _, _, _, _⟩ :: _) _ _; refine wpList_store_new ?_ 74 (.tmp 21) (.tmp 173) ?_ _ (tnCells q).toArray ?_ ?_ hi108 ?_ (tnOne q) ?_; exact rfl; exact rfl; simp [Act.eval]; simp [Act.eval]; simp [tnCells]; rw [← HW2.out])
    | (at_builtin; refine wpList_append_own _ rfl _ _ 31 rfl base 74 i74 z74 13 144 Try.underlying31 hi7 hz7 hs7 hby7 hzs7 (by decide) _ _ _ rfl HOW.out ⟨w4.heap.size + 1, 0, none⟩ 1 1 (tcs q [.int .u64 (q.ts % 1000000000), .int .i64 (q.ts / 1000000000), .pointer none, .string q.sensor, .string q.metric, .float .f64 q.val]) rfl rfl HTN.out (tcsOne q _ rfl) (by simp [maxLen]; omega) (by omega) HBS.out ?_; intro v' w' ho hg _))
  have REL8 := (HREL4.out.below HBL.out).turn HOW.out hg
  rw [← HCS.out] at ho
  first | exact ⟨REL8, ho⟩ | (refine ⟨?_, ?_⟩ <;> assumption)

end
end Go.Proofs.Qxb6605676a.Kz
