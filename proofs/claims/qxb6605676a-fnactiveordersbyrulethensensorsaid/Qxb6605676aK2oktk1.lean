import Derived.Test.Qxb6605676aKz26
namespace Go.Proofs.Qxb6605676a.Kz
set_option linter.unusedVariables false
set_option linter.unusedSimpArgs false
open Go.RowKit Go.Proofs.Qxb6605676a.Mp Go.Proofs.Qxb6605676a.Tm Go.Proofs.Qxb6605676a.En
open Go.ChangeMaps (setBlock heap_setBlock_same)

section
attribute [local go_sem] Rm.run_store_float
variable {mb rb pb lr bx base kb sb tb : Nat} {rs : Array Value} {R : List RuleD} {K : List ZK} {S : List ZS} {T' : List ZR} {w0 : World} {sa ta : Option Addr} {XA : List (ZK × Nat)} {XC XL U : List ZK} {wr : World} {l : Value}

set_option maxHeartbeats 3200000 in
set_option maxRecDepth 100000 in
theorem w2_ok_tk1 (P0 : Act → World → Prop) (Q0 : Exit → Act → World → Prop) (q : ZK) (j n : Nat) (hq : K[j]? = some q) (hjn : j < n) (hn : n ≤ 4096) (hU : U.length ≤ 4096) (hQ0 : ∀ c a d v w, Q0 (.panic c) (Act.put a d v) w → Q0 (.panic c) a w) (hlr : mb + 5 < lr ∧ mb + 5 < pb ∧ pb ≠ lr) (hRl : R.length ≤ 1000) (hok : (q.state.toList == [79, 75]) = true) (p : Nat) (r : RuleD) (hp : plc q.rule R 0 (-1) = p) (hr : R[p]? = some r) (hm : (r.metric.toList == q.metric.toList) = true) (hsl : r.sevs.length ≤ 1000) (lv : Nat) (hl : lev q.sev r.sevs 0 = lv) (hco : Hid (¬ q.cool = 0))
    (rel : Rel3 w0 sa ta mb rb pb lr bx base kb sb tb rs R K S T' [] XA XC XL U wr l) (u12 u13 u14 u15 u16 u52 u53 u54 u55 u56 u57 u58 u59 u60 u61 u62 u63 u64 u65 u66 u67 u68 u69 u70 u71 u72 u73 u74 u75 u76 u77 u78 u79 u80 u81 u82 u83 u84 u85 u86 u87 u88 u89 u90 u91 u92 u93 u94 u95 u96 u97 u98 u99 u100 u101 u102 u103 u104 u105 u106 u107 u108 u109 u110 u111 u112 u113 u114 u115 u116 u117 u118 u119 u120 u121 u122 u123 u124 u125 u126 u127 u128 u129 u130 u131 u132 u133 u134 u135 u136 u137 u138 u139 u140 u141 u142 u143 u144 u145 u146 u147 c1 c2 c3 c4 c5 c7 c8 c11 c17 c18 c19 c20 c21 c22 c23 c24 c25 c26 c27 c28 c29 c30 c31 c32 c33 c34 c35 c36 c37 c38 c39 c40 c41 c42 c43 c44 c45 c46 c47 c48 c148 c149 c150 c151 c152 c153 c154 c155 c156 c157 c158 c159 c160 c161 c162 c163 c164 c165 c166 c167 c168 c169 c170 c171 c172 c173 c174 c175 c176 c177 c178 c179 c180 c181 c182 c183 c184 c185 c186 c187 c188 c189 c190 c191 c192 c193 c194 c195 c196 c197 c198 c199 c200 c201 c202 c203 c204 c205 c206 c207 c208 c209 c210 c211 c212 c213 c214 c215 c216 c217 c218 c219 c220 : Value)
    (hend : ∀ (v12 v13 v14 v15 v16 v52 v53 v54 v55 v56 v57 v58 v59 v60 v61 v62 v63 v64 v65 v66 v67 v68 v69 v70 v71 v72 v73 v74 v75 v76 v77 v78 v79 v80 v81 v82 v83 v84 v85 v86 v87 v88 v89 v90 v91 v92 v93 v94 v95 v96 v97 v98 v99 v100 v101 v102 v103 v104 v105 v106 v107 v108 v109 v110 v111 v112 v113 v114 v115 v116 v117 v118 v119 v120 v121 v122 v123 v124 v125 v126 v127 v128 v129 v130 v131 v132 v133 v134 v135 v136 v137 v138 v139 v140 v141 v142 v143 v144 v145 v146 v147 l' : Value) (w' : World), Next2 w0 sa ta mb rb pb lr bx base kb sb tb rs R K S T' [] XA XC XL U q l' w' → P0 ⟨#[.pointer (some ⟨mb + 5, 0, none⟩), c1, c2, c3, c4, c5, .map (some pb), c7, c8, l', .map (some lr), c11, v12, v13, v14, v15, v16, c17, c18, c19, c20, c21, c22, c23, c24, c25, c26, c27, c28, c29, c30, c31, c32, c33, c34, c35, c36, c37, c38, c39, c40, c41, c42, c43, c44, c45, c46, c47, c48, .slice (some ⟨kb, 0, none⟩) n n, .int .i64 n, .int .i64 ((j + 1 : Nat) : Int), v52, v53, v54, v55, v56, v57, v58, v59, v60, v61, v62, v63, v64, v65, v66, v67, v68, v69, v70, v71, v72, v73, v74, v75, v76, v77, v78, v79, v80, v81, v82, v83, v84, v85, v86, v87, v88, v89, v90, v91, v92, v93, v94, v95, v96, v97, v98, v99, v100, v101, v102, v103, v104, v105, v106, v107, v108, v109, v110, v111, v112, v113, v114, v115, v116, v117, v118, v119, v120, v121, v122, v123, v124, v125, v126, v127, v128, v129, v130, v131, v132, v133, v134, v135, v136, v137, v138, v139, v140, v141, v142, v143, v144, v145, v146, v147, c148, c149, c150, c151, c152, c153, c154, c155, c156, c157, c158, c159, c160, c161, c162, c163, c164, c165, c166, c167, c168, c169, c170, c171, c172, c173, c174, c175, c176, c177, c178, c179, c180, c181, c182, c183, c184, c185, c186, c187, c188, c189, c190, c191, c192, c193, c194, c195, c196, c197, c198, c199, c200, c201, c202, c203, c204, c205, c206, c207, c208, c209, c210, c211, c212, c213, c214, c215, c216, c217, c218, c219, c220], []⟩ w') :
    Code.wp Try.prog body2 (Exit.then P0 Q0) ⟨#[.pointer (some ⟨mb + 5, 0, none⟩), c1, c2, c3, c4, c5, .map (some pb), c7, c8, l, .map (some lr), c11, u12, u13, u14, u15, u16, c17, c18, c19, c20, c21, c22, c23, c24, c25, c26, c27, c28, c29, c30, c31, c32, c33, c34, c35, c36, c37, c38, c39, c40, c41, c42, c43, c44, c45, c46, c47, c48, .slice (some ⟨kb, 0, none⟩) n n, .int .i64 n, .int .i64 j, u52, u53, u54, u55, u56, u57, u58, u59, u60, u61, u62, u63, u64, u65, u66, u67, u68, u69, u70, u71, u72, u73, u74, u75, u76, u77, u78, u79, u80, u81, u82, u83, u84, u85, u86, u87, u88, u89, u90, u91, u92, u93, u94, u95, u96, u97, u98, u99, u100, u101, u102, u103, u104, u105, u106, u107, u108, u109, u110, u111, u112, u113, u114, u115, u116, u117, u118, u119, u120, u121, u122, u123, u124, u125, u126, u127, u128, u129, u130, u131, u132, u133, u134, u135, u136, u137, u138, u139, u140, u141, u142, u143, u144, u145, u146, u147, c148, c149, c150, c151, c152, c153, c154, c155, c156, c157, c158, c159, c160, c161, c162, c163, c164, c165, c166, c167, c168, c169, c170, c171, c172, c173, c174, c175, c176, c177, c178, c179, c180, c181, c182, c183, c184, c185, c186, c187, c188, c189, c190, c191, c192, c193, c194, c195, c196, c197, c198, c199, c200, c201, c202, c203, c204, c205, c206, c207, c208, c209, c210, c211, c212, c213, c214, c215, c216, c217, c218, c219, c220], []⟩ wr := by
  conv => arg 2; whnf
  obtain ⟨W2, HW2, REL, hks⟩ := open2 rel q
  have HR2 : Hid (wr.rangeAt kb (j * 21) (ksCells q)) := rel.rows j q hq
  have hi107 : (Try.prog.info? 107).map (·.size) = some (ksCells q).length := by kernel_rfl
  have hi108 : (Try.prog.info? 107).map (·.size) = some (ksCells q).toArray.size := by kernel_rfl
  generalize hkq : wr.heap.size = kq at hks
  have k0 : W2.cell? ⟨kq, 0, none⟩ = some (.string q.rule) := hks.row 0 _ rfl
  have k1 : W2.cell? ⟨kq, 1, none⟩ = some (.string q.sensor) := hks.row 1 _ rfl
  have k2 : W2.cell? ⟨kq, 2, none⟩ = some (.string q.metric) := hks.row 2 _ rfl
  have k3 : W2.cell? ⟨kq, 3, none⟩ = some (.string q.sev) := hks.row 3 _ rfl
  have k4 : W2.cell? ⟨kq, 4, none⟩ = some (.string q.state) := hks.row 4 _ rfl
  have hlk := REL.places.look keyTy9 Try.underlying111 (z := .int .i64 0) (fun w => by kernel_rfl) q.rule true
  rw [get_places] at hlk
  have hnp : ¬ plc q.rule R 0 (-1) < 0 := by omega
  rw [if_neg hnp, hp] at hlk
  clear hnp
  simp only [sv, if_true, Option.getD_some, Option.isSome_some] at hlk
  have HREL : Hid (Rel3 w0 sa ta mb rb pb lr bx base kb sb tb rs R K S T' [] XA XC XL U W2 l) := REL
  have HKS : Hid (KsAt W2 kq q) := hks
  obtain ⟨lb, f, g, h, _, d1, d2, _, _, _, HLV, _⟩ := REL.rules p r hr
  obtain ⟨e0, e2, _, e4, _, _⟩ := REL.eng.cells
  have hpR : p < R.length := (List.getElem?_eq_some_iff.1 hr).1
  have HLV' : Hid (LevelsAt W2 lb r.sevs) := HLV
  clear HLV
  clear rel REL hks
  subst hkq
  go_wp2_with (first
    | (with_reducible show wpList _ _ _ (⟨some 54, .load 107 (.tmp 53), _, _, _, _⟩ :: _) _ _; refine wpList_load_mid ?_ 107 (.tmp 53) ?_ kb (j * 21) ?_ (ksCells q) _ HR2.out Try.underlying107 rfl hi107 ?_; exact rfl; exact rfl; simp [Act.eval])
    | (with_reducible show wpList _ _ _ (⟨none, .store 107 (.tmp 12) (.tmp 54), _, _, _, _⟩ :: _) _ _; refine wpList_store_new ?_ 107 (.tmp 12) (.tmp 54) ?_ _ (ksCells q).toArray ?_ ?_ hi108 ?_ (ksOne q) ?_; exact rfl; exact rfl; simp [Act.eval]; simp [Act.eval]; simp [ksCells]; rw [← HW2.out]))
  go_quiet (fail)
  have HI : Hid (Calls Try.prog 56 #[.slice (some ⟨lb, 0, none⟩) r.sevs.length r.sevs.length, .func (.func 57) #[] #[.pointer (some ⟨wr.heap.size, 0, none⟩)]] (W2.drewN nq) fun e w' => e = .returned (.int .i64 (lv : Nat)) ∧ Below (W2.drewN nq).heap.size (W2.drewN nq) w') := by
    have := indexFunc_any r.sevs q.sev lb wr.heap.size (W2.drewN nq) HLV'.out k3 hsl
    rw [hl] at this; exact this
  clear hlk HR2
  go_wp2_with fail
  refine Calls.mono HI.out ?_
  rintro e w4 ⟨rfl, hb4⟩
  replace hb4 : Below W2.heap.size W2 w4 := Below.trans (b := W2.drewN nq) ⟨rfl, rfl, rfl, Nat.le_refl _, fun _ _ => rfl⟩ hb4
  have REL4 := HREL.out.below hb4
  have hks4 := HKS.out.below hb4
  clear HLV' HI d1 d2 e0 e2 e4 k0 k1 k2 k3 k4
  have k0 : w4.cell? ⟨wr.heap.size, 0, none⟩ = some (.string q.rule) := hks4.row 0 _ rfl
  have k1 : w4.cell? ⟨wr.heap.size, 1, none⟩ = some (.string q.sensor) := hks4.row 1 _ rfl
  have k2 : w4.cell? ⟨wr.heap.size, 2, none⟩ = some (.string q.metric) := hks4.row 2 _ rfl
  have k3 : w4.cell? ⟨wr.heap.size, 3, none⟩ = some (.string q.sev) := hks4.row 3 _ rfl
  have k4 : w4.cell? ⟨wr.heap.size, 4, none⟩ = some (.string q.state) := hks4.row 4 _ rfl
  have hk4 := hks4.lt
  have HREL4 : Hid (Rel3 w0 sa ta mb rb pb lr bx base kb sb tb rs R K S T' [] XA XC XL U w4 l) := REL4
  have HKS4 : Hid (KsAt w4 wr.heap.size q) := hks4
  have HB4 : Hid (Below W2.heap.size W2 w4) := hb4
  clear REL4 hks4 hb4
  have k18 : w4.cell? ⟨wr.heap.size, 18, none⟩ = some (.int .u64 (q.cool % 1000000000)) := HKS4.out.row 18 _ rfl
  have k19 : w4.cell? ⟨wr.heap.size, 19, none⟩ = some (.int .i64 (q.cool / 1000000000)) := HKS4.out.row 19 _ rfl
  have k20 : w4.cell? ⟨wr.heap.size, 20, none⟩ = some (.pointer none) := HKS4.out.row 20 _ rfl
  go_wp2_with fail
  obtain ⟨W5, HW5⟩ : ∃ W, Hid (W = w4.alloc (.cells #[.int .i64 p, .int .i64 lv, .string q.sensor] 134)) := ⟨_, rfl⟩
  have hB5 : Below w4.heap.size w4 W5 := by rw [HW5.out]; exact (Below.refl _ _).alloc (Nat.le_refl _) _
  have REL5 := HREL4.out.below hB5
  have hks5 := HKS4.out.below hB5
  have hn5 : W5.heap[w4.heap.size]? = some (.cells #[.int .i64 p, .int .i64 lv, .string q.sensor] 134) := by rw [HW5.out]; exact heap_alloc_last w4 _
  generalize hyb : w4.heap.size = yb at hn5
  have y0 : W5.cell? ⟨yb, 0, none⟩ = some (.int .i64 p) := by simp [World.cell?, hn5]
  have y1 : W5.cell? ⟨yb, 1, none⟩ = some (.int .i64 lv) := by simp [World.cell?, hn5]
  have y2 : W5.cell? ⟨yb, 2, none⟩ = some (.string q.sensor) := by simp [World.cell?, hn5]
  have hyl : yb < W5.heap.size := (Array.getElem?_eq_some_iff.1 hn5).1
  rw [← HW5.out]
  have HMT : Hid (mtc R q.rule q.metric q.sev = ((p : Int), (lv : Int))) := mtc_tk hp hr hm hl
  clear hn5 HW5 hB5 hp hr hm hl hk4 k0 k1 k2 k3 k4 k18 k19 k20
  have HREL5 : Hid (Rel3 w0 sa ta mb rb pb lr bx base kb sb tb rs R K S T' [] XA XC XL U W5 l) := REL5
  have HKS5 : Hid (KsAt W5 wr.heap.size q) := hks5
  clear REL5 hks5
  have HZ : Hid (∀ W : World, Calls Try.prog 58 #[.agg #[.int .u64 (q.cool % 1000000000), .int .i64 (q.cool / 1000000000), .pointer none]] W fun e w' => e = .returned (.bool false) ∧ Below W.heap.size W w') := by
    intro W
    have := iszero_any q.cool W
    rw [decide_eq_false hco.out] at this
    exact this
  refine Calls.mono (HZ.out _) ?_
  rintro e w6 ⟨rfl, hb6⟩
  have REL6 := HREL5.out.below hb6
  have hks6 := HKS5.out.below hb6
  have z0 : w6.cell? ⟨yb, 0, none⟩ = some (.int .i64 p) := (hb6.cell hyl).trans y0
  have z1 : w6.cell? ⟨yb, 1, none⟩ = some (.int .i64 lv) := (hb6.cell hyl).trans y1
  have z2 : w6.cell? ⟨yb, 2, none⟩ = some (.string q.sensor) := (hb6.cell hyl).trans y2
  have k18 : w6.cell? ⟨wr.heap.size, 18, none⟩ = some (.int .u64 (q.cool % 1000000000)) := hks6.row 18 _ rfl
  have k19 : w6.cell? ⟨wr.heap.size, 19, none⟩ = some (.int .i64 (q.cool / 1000000000)) := hks6.row 19 _ rfl
  have k20 : w6.cell? ⟨wr.heap.size, 20, none⟩ = some (.pointer none) := hks6.row 20 _ rfl
  obtain ⟨_, _, _, e4, _, _⟩ := REL6.eng.cells
  obtain ⟨es6, clock6, hes6, hes62⟩ := REL6.eng.cool
  obtain ⟨es7, clock7, hE7, hup7⟩ := EntriesAre.store (hes62 : EntriesAre es6 clock6 kv (coMap R XC)) keyTy134 Try.underlying116 ⟨p, lv, q.sensor⟩ (T q.cool)
  simp only [kv, T, tv] at hup7
  have HE7 : Hid (EntriesAre es7 clock7 kv (put Key.same ⟨p, lv, q.sensor⟩ (T q.cool) (coMap R XC))) := hE7
  have HREL6 : Hid (Rel3 w0 sa ta mb rb pb lr bx base kb sb tb rs R K S T' [] XA XC XL U w6 l) := REL6
  have qd := heap_drew
  have HZ6 : Hid (w6.heap[mb + 2]? = some (.map es6 clock6)) := hes6
  clear hes62 hE7 REL6 hks6 y0 y1 y2 hb6
  go_wp2_with fail
  go_region
  go_wp2_with fail
  have hgr := setBlock_grown w6.drew (mb + 2) (.map es7 clock7)
  have hmp : MapIs (setBlock w6.drew (mb + 2) (.map es7 clock7)) (mb + 2) kv (put Key.same ⟨p, lv, q.sensor⟩ (T q.cool) (coMap R XC)) := HE7.out.at (setBlock_get (by exact HZ6.out) _)
  have REL7 := (HREL6.out.below below_drew).putC q _ (keyC_tk HMT.out hco.out) ⟨by omega, by omega⟩ hgr hmp
  exact take_end ((REL7.skipA q (keyA_ok hok)).skipL q (keyL_ok hok)) HMT.out
end
end Go.Proofs.Qxb6605676a.Kz
