import Derived.Test.Qxb6605676aKz26
namespace Go.Proofs.Qxb6605676a.Kz
set_option linter.unusedVariables false
set_option linter.unusedSimpArgs false
open Go.RowKit Go.Proofs.Qxb6605676a.Mp Go.Proofs.Qxb6605676a.Tm Go.Proofs.Qxb6605676a.En
open Go.ChangeMaps (setBlock heap_setBlock_same)

section
attribute [local go_sem] Rm.run_store_float
variable {mb rb pb lr bx base kb sb tb : Nat} {rs : Array Value} {R : List RuleD} {K : List ZK} {S : List ZS} {T' : List ZR} {w0 : World} {sa ta : Option Addr} {XA : List (ZK × Nat)} {XC XL U : List ZK} {wr : World} {l : Value}

set_option maxHeartbeats 3200000 in
set_option maxRecDepth 100000 in
theorem w2_no_nl (P0 : Act → World → Prop) (Q0 : Exit → Act → World → Prop) (q : ZK) (j n : Nat) (hq : K[j]? = some q) (hjn : j < n) (hn : n ≤ 4096) (hU : U.length ≤ 4096) (hQ0 : ∀ c a d v w, Q0 (.panic c) (Act.put a d v) w → Q0 (.panic c) a w) (hlr : mb + 5 < lr ∧ mb + 5 < pb ∧ pb ≠ lr) (hRl : R.length ≤ 1000) (hok : (q.state.toList == [79, 75]) = false) (p : Nat) (r : RuleD) (hp : plc q.rule R 0 (-1) = p) (hr : R[p]? = some r) (hm : (r.metric.toList == q.metric.toList) = true) (hsl : r.sevs.length ≤ 1000) (hl : lev q.sev r.sevs 0 < 0)
    (rel : Rel3 w0 sa ta mb rb pb lr bx base kb sb tb rs R K S T' [] XA XC XL U wr l) (u12 u13 u14 u15 u16 u52 u53 u54 u55 u56 u57 u58 u59 u60 u61 u62 u63 u64 u65 u66 u67 u68 u69 u70 u71 u72 u73 u74 u75 u76 u77 u78 u79 u80 u81 u82 u83 u84 u85 u86 u87 u88 u89 u90 u91 u92 u93 u94 u95 u96 u97 u98 u99 u100 u101 u102 u103 u104 u105 u106 u107 u108 u109 u110 u111 u112 u113 u114 u115 u116 u117 u118 u119 u120 u121 u122 u123 u124 u125 u126 u127 u128 u129 u130 u131 u132 u133 u134 u135 u136 u137 u138 u139 u140 u141 u142 u143 u144 u145 u146 u147 c1 c2 c3 c4 c5 c7 c8 c11 c17 c18 c19 c20 c21 c22 c23 c24 c25 c26 c27 c28 c29 c30 c31 c32 c33 c34 c35 c36 c37 c38 c39 c40 c41 c42 c43 c44 c45 c46 c47 c48 c148 c149 c150 c151 c152 c153 c154 c155 c156 c157 c158 c159 c160 c161 c162 c163 c164 c165 c166 c167 c168 c169 c170 c171 c172 c173 c174 c175 c176 c177 c178 c179 c180 c181 c182 c183 c184 c185 c186 c187 c188 c189 c190 c191 c192 c193 c194 c195 c196 c197 c198 c199 c200 c201 c202 c203 c204 c205 c206 c207 c208 c209 c210 c211 c212 c213 c214 c215 c216 c217 c218 c219 c220 : Value)
    (hend : ∀ (v12 v13 v14 v15 v16 v52 v53 v54 v55 v56 v57 v58 v59 v60 v61 v62 v63 v64 v65 v66 v67 v68 v69 v70 v71 v72 v73 v74 v75 v76 v77 v78 v79 v80 v81 v82 v83 v84 v85 v86 v87 v88 v89 v90 v91 v92 v93 v94 v95 v96 v97 v98 v99 v100 v101 v102 v103 v104 v105 v106 v107 v108 v109 v110 v111 v112 v113 v114 v115 v116 v117 v118 v119 v120 v121 v122 v123 v124 v125 v126 v127 v128 v129 v130 v131 v132 v133 v134 v135 v136 v137 v138 v139 v140 v141 v142 v143 v144 v145 v146 v147 l' : Value) (w' : World), Next2 w0 sa ta mb rb pb lr bx base kb sb tb rs R K S T' [] XA XC XL U q l' w' → P0 ⟨#[.pointer (some ⟨mb + 5, 0, none⟩), c1, c2, c3, c4, c5, .map (some pb), c7, c8, l', .map (some lr), c11, v12, v13, v14, v15, v16, c17, c18, c19, c20, c21, c22, c23, c24, c25, c26, c27, c28, c29, c30, c31, c32, c33, c34, c35, c36, c37, c38, c39, c40, c41, c42, c43, c44, c45, c46, c47, c48, .slice (some ⟨kb, 0, none⟩) n n, .int .i64 n, .int .i64 ((j + 1 : Nat) : Int), v52, v53, v54, v55, v56, v57, v58, v59, v60, v61, v62, v63, v64, v65, v66, v67, v68, v69, v70, v71, v72, v73, v74, v75, v76, v77, v78, v79, v80, v81, v82, v83, v84, v85, v86, v87, v88, v89, v90, v91, v92, v93, v94, v95, v96, v97, v98, v99, v100, v101, v102, v103, v104, v105, v106, v107, v108, v109, v110, v111, v112, v113, v114, v115, v116, v117, v118, v119, v120, v121, v122, v123, v124, v125, v126, v127, v128, v129, v130, v131, v132, v133, v134, v135, v136, v137, v138, v139, v140, v141, v142, v143, v144, v145, v146, v147, c148, c149, c150, c151, c152, c153, c154, c155, c156, c157, c158, c159, c160, c161, c162, c163, c164, c165, c166, c167, c168, c169, c170, c171, c172, c173, c174, c175, c176, c177, c178, c179, c180, c181, c182, c183, c184, c185, c186, c187, c188, c189, c190, c191, c192, c193, c194, c195, c196, c197, c198, c199, c200, c201, c202, c203, c204, c205, c206, c207, c208, c209, c210, c211, c212, c213, c214, c215, c216, c217, c218, c219, c220], []⟩ w') :
    Code.wp Try.prog body2 (Exit.then P0 Q0) ⟨#[.pointer (some ⟨mb + 5, 0, none⟩), c1, c2, c3, c4, c5, .map (some pb), c7, c8, l, .map (some lr), c11, u12, u13, u14, u15, u16, c17, c18, c19, c20, c21, c22, c23, c24, c25, c26, c27, c28, c29, c30, c31, c32, c33, c34, c35, c36, c37, c38, c39, c40, c41, c42, c43, c44, c45, c46, c47, c48, .slice (some ⟨kb, 0, none⟩) n n, .int .i64 n, .int .i64 j, u52, u53, u54, u55, u56, u57, u58, u59, u60, u61, u62, u63, u64, u65, u66, u67, u68, u69, u70, u71, u72, u73, u74, u75, u76, u77, u78, u79, u80, u81, u82, u83, u84, u85, u86, u87, u88, u89, u90, u91, u92, u93, u94, u95, u96, u97, u98, u99, u100, u101, u102, u103, u104, u105, u106, u107, u108, u109, u110, u111, u112, u113, u114, u115, u116, u117, u118, u119, u120, u121, u122, u123, u124, u125, u126, u127, u128, u129, u130, u131, u132, u133, u134, u135, u136, u137, u138, u139, u140, u141, u142, u143, u144, u145, u146, u147, c148, c149, c150, c151, c152, c153, c154, c155, c156, c157, c158, c159, c160, c161, c162, c163, c164, c165, c166, c167, c168, c169, c170, c171, c172, c173, c174, c175, c176, c177, c178, c179, c180, c181, c182, c183, c184, c185, c186, c187, c188, c189, c190, c191, c192, c193, c194, c195, c196, c197, c198, c199, c200, c201, c202, c203, c204, c205, c206, c207, c208, c209, c210, c211, c212, c213, c214, c215, c216, c217, c218, c219, c220], []⟩ wr := by
  conv => arg 2; whnf
  obtain ⟨W2, HW2, REL, hks⟩ := open2 rel q
  have HR2 : Hid (wr.rangeAt kb (j * 21) (ksCells q)) := rel.rows j q hq
  have hi107 : (Try.prog.info? 107).map (·.size) = some (ksCells q).length := by kernel_rfl
  have hi108 : (Try.prog.info? 107).map (·.size) = some (ksCells q).toArray.size := by kernel_rfl
  generalize hkq : wr.heap.size = kq at hks
  have k0 : W2.cell? ⟨kq, 0, none⟩ = some (.string q.rule) := hks.row 0 _ rfl
  have k1 : W2.cell? ⟨kq, 1, none⟩ = some (.string q.sensor) := hks.row 1 _ rfl
  have k2 : W2.cell? ⟨kq, 2, none⟩ = some (.string q.metric) := hks.row 2 _ rfl
  have k3 : W2.cell? ⟨kq, 3, none⟩ = some (.string q.sev) := hks.row 3 _ rfl
  have k4 : W2.cell? ⟨kq, 4, none⟩ = some (.string q.state) := hks.row 4 _ rfl
  have k8 : W2.cell? ⟨kq, 8, none⟩ = some (.int .u64 (q.lts % 1000000000)) := hks.row 8 _ rfl
  have k9 : W2.cell? ⟨kq, 9, none⟩ = some (.int .i64 (q.lts / 1000000000)) := hks.row 9 _ rfl
  have k10 : W2.cell? ⟨kq, 10, none⟩ = some (.pointer none) := hks.row 10 _ rfl
  have k11 : W2.cell? ⟨kq, 11, none⟩ = some (.string q.sensor) := hks.row 11 _ rfl
  have k12 : W2.cell? ⟨kq, 12, none⟩ = some (.string q.metric) := hks.row 12 _ rfl
  have k13 : W2.cell? ⟨kq, 13, none⟩ = some (.float .f64 q.val) := hks.row 13 _ rfl
  obtain ⟨W3, hst, hg3, hM3⟩ := store_ex REL.lrs keyTy126 Try.underlying125 (q.rule, q.sensor) (rdv q)
  simp only [pv, rdv] at hst
  have hkL : keyL q = some (q.rule, q.sensor) := by unfold keyL; rw [show okB.toList = [79, 75] from okB_list, hok]; rfl
  have REL3 := REL.putL q _ hkL ⟨hlr.1, hlr.2.2⟩ hg3 hM3
  have hks3 := hks.turn REL.lrs hg3
  have m0 : W3.cell? ⟨kq, 0, none⟩ = some (.string q.rule) := hks3.row 0 _ rfl
  have m1 : W3.cell? ⟨kq, 1, none⟩ = some (.string q.sensor) := hks3.row 1 _ rfl
  have m2 : W3.cell? ⟨kq, 2, none⟩ = some (.string q.metric) := hks3.row 2 _ rfl
  have m3 : W3.cell? ⟨kq, 3, none⟩ = some (.string q.sev) := hks3.row 3 _ rfl
  have m4 : W3.cell? ⟨kq, 4, none⟩ = some (.string q.state) := hks3.row 4 _ rfl
  have hlk := REL3.places.look keyTy9 Try.underlying111 (z := .int .i64 0) (fun w => by kernel_rfl) q.rule true
  rw [get_places] at hlk
  have hnp : ¬ plc q.rule R 0 (-1) < 0 := by omega
  rw [if_neg hnp, hp] at hlk
  clear hnp
  simp only [sv, if_true, Option.getD_some, Option.isSome_some] at hlk
  have HREL : Hid (Rel3 w0 sa ta mb rb pb lr bx base kb sb tb rs R K S T' [] XA XC (XL ++ [q]) U W3 l) := REL3
  have HKS : Hid (KsAt W3 kq q) := hks3
  obtain ⟨lb, f, g, h, _, d1, d2, _, _, _, HLV, _⟩ := REL3.rules p r hr
  obtain ⟨e0, e2, _, e4, _, _⟩ := REL3.eng.cells
  have hpR : p < R.length := (List.getElem?_eq_some_iff.1 hr).1
  have HLV' : Hid (LevelsAt W3 lb r.sevs) := HLV
  clear HLV
  obtain ⟨i107, z107, hi7, hz7, hs7, hby7, hzs7⟩ := info107'
  clear rel REL hks REL3 hks3 hM3 hg3 hkL
  subst hkq
  go_wp2_with (first
    | (with_reducible show wpList _ _ _ (⟨some 54, .load 107 (.tmp 53), _, _, _, _⟩ :: _) _ _; refine wpList_load_mid ?_ 107 (.tmp 53) ?_ kb (j * 21) ?_ (ksCells q) _ HR2.out Try.underlying107 rfl hi107 ?_; exact rfl; exact rfl; simp [Act.eval])
    | (with_reducible show wpList _ _ _ (⟨none, .store 107 (.tmp 12) (.tmp 54), _, _, _, _⟩ :: _) _ _; refine wpList_store_new ?_ 107 (.tmp 12) (.tmp 54) ?_ _ (ksCells q).toArray ?_ ?_ hi108 ?_ (ksOne q) ?_; exact rfl; exact rfl; simp [Act.eval]; simp [Act.eval]; simp [ksCells]; rw [← HW2.out]))
  go_quiet (fail)
  have HI : Hid (Calls Try.prog 56 #[.slice (some ⟨lb, 0, none⟩) r.sevs.length r.sevs.length, .func (.func 57) #[] #[.pointer (some ⟨wr.heap.size, 0, none⟩)]] (W3.drewN nq) fun e w' => e = .returned (.int .i64 (lev q.sev r.sevs 0)) ∧ Below (W3.drewN nq).heap.size (W3.drewN nq) w') := by
    have := indexFunc_any r.sevs q.sev lb wr.heap.size (W3.drewN nq) HLV'.out m3 hsl
    exact this
  clear hlk HR2
  go_wp2_with fail
  refine Calls.mono HI.out ?_
  rintro e w4 ⟨rfl, hb4⟩
  replace hb4 : Below W3.heap.size W3 w4 := Below.trans (b := W3.drewN nq) ⟨rfl, rfl, rfl, Nat.le_refl _, fun _ _ => rfl⟩ hb4
  have REL4 := HREL.out.below hb4
  have hks4 := HKS.out.below hb4
  clear HLV' HI d1 d2 e0 e2 e4 k0 k1 k2 k3 k4 m0 m1 m2 m3 m4 k8 k9 k10 k11 k12 k13 hst
  have k0 : w4.cell? ⟨wr.heap.size, 0, none⟩ = some (.string q.rule) := hks4.row 0 _ rfl
  have k1 : w4.cell? ⟨wr.heap.size, 1, none⟩ = some (.string q.sensor) := hks4.row 1 _ rfl
  have k2 : w4.cell? ⟨wr.heap.size, 2, none⟩ = some (.string q.metric) := hks4.row 2 _ rfl
  have k3 : w4.cell? ⟨wr.heap.size, 3, none⟩ = some (.string q.sev) := hks4.row 3 _ rfl
  have k4 : w4.cell? ⟨wr.heap.size, 4, none⟩ = some (.string q.state) := hks4.row 4 _ rfl
  have hk4 := hks4.lt
  have HREL4 : Hid (Rel3 w0 sa ta mb rb pb lr bx base kb sb tb rs R K S T' [] XA XC (XL ++ [q]) U w4 l) := REL4
  have HKS4 : Hid (KsAt w4 wr.heap.size q) := hks4
  have HB4 : Hid (Below W3.heap.size W3 w4) := hb4
  clear REL4 hks4 hb4
  have HOWN : Hid ((w4.alloc (.cells (lfCells q).toArray 107)).ownsRow base 107 21 l U.length (U.flatMap lfCells)) := HREL4.out.left.alloc _
  have HBS : Hid (base ≤ (w4.alloc (.cells (lfCells q).toArray 107)).heap.size) := Nat.le_trans HREL4.out.hbase (by simp)
  have HBL : Hid (Below w4.heap.size w4 (w4.alloc (.cells (lfCells q).toArray 107))) := (Below.refl _ _).alloc (Nat.le_refl _) _
  go_wp2_with (at_builtin; refine wpList_append_own _ rfl _ _ 30 rfl base 107 i107 z107 21 224 Try.underlying30 hi7 hz7 hs7 hby7 hzs7 (by decide) _ _ _ rfl (HOWN.out) ⟨_, 0, none⟩ 1 1 (lfCells q) rfl rfl (lf_new _ q) (lfOne q) (by simp [maxLen]; omega) (by omega) (HBS.out) ?_; intro v' w' ho hg _)
  exact (((HREL4.out.below HBL.out).left_end' (mtc_nl hp hr hm hl)  hg ho))
end
end Go.Proofs.Qxb6605676a.Kz
