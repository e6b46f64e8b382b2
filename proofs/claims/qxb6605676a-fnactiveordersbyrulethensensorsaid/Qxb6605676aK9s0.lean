import Derived.Test.Qxb6605676aKz53
namespace Go.Proofs.Qxb6605676a.Kz
set_option linter.unusedVariables false
set_option linter.unusedSimpArgs false
open Go.RowKit Go.Proofs.Qxb6605676a.Mp Go.Proofs.Qxb6605676a.Tm Go.Proofs.Qxb6605676a.En

section
variable {rz kb base : Nat} {R : List RuleD} {K : List ZK} {E : List EN} {w wr : World}

set_option maxHeartbeats 6400000 in
set_option maxRecDepth 100000 in
theorem w61a_s0 (P0 : Act → World → Prop) (Q0 : Exit → Act → World → Prop) (q : ZK) (j kc : Nat) (v : Value) (hq : K[j]? = some q) (hjn : j < K.length) (hn : K.length ≤ 4096) (hE : E.length ≤ 4096) (hRl : R.length ≤ 1000) (hRs : ∀ r ∈ R, r.sevs.length ≤ 1000) (hs : (q.state.toList == [79, 75]) = false) (i : Nat) (hm : mtc R q.rule q.metric q.sev = ((i : Int), 0)) (hsn : Hid ((E.any fun e => (e.rule == i && e.sensor.toList == q.sensor.toList)) = false)) 
    (hR : Hid (RulesAt wr rz R)) (hK : Hid (KeysAt wr kb 0 K)) (hb : Hid (Below base w wr ∧ base ≤ wr.heap.size)) (ho : Hid (wr.ownsRow base 148 4 v E.length (E.flatMap enCells))) (u7 u8 u9 u10 u11 u21 u22 u23 u24 u25 u26 u27 u28 u29 u30 u31 u32 u33 u34 u35 u36 u37 u38 u39 u40 u41 u42 u43 u44 u45 u46 u47 u48 u49 u50 u51 u52 u53 u54 u55 u56 u57 u58 u59 u60 u61 u62 u63 u64 u65 u66 u67 u68 u69 u70 u71 u72 u73 u74 u75 u76 u77 u78 u79 u80 u81 u82 u83 u84 u85 u86 u87 u88 u89 u90 u91 u92 u93 c2 c3 c4 c12 c13 c14 c15 c16 c17 c18 c19 c20 c94 c95 c96 c97 c98 c99 c100 c101 c102 c103 c104 c105 c106 c107 c108 c109 c110 c111 c112 c113 c114 c115 c116 c117 c118 c119 c120 c121 c122 c123 c124 c125 c126 c127 c128 c129 c130 c131 c132 c133 c134 c135 c136 c137 c138 c139 c140 c141 c142 c143 c144 c145 c146 c147 c148 c149 c150 c151 c152 c153 c154 c155 c156 c157 c158 c159 c160 c161 c162 c163 c164 c165 c166 c167 c168 c169 c170 c171 c172 c173 c174 c175 c176 c177 c178 c179 c180 c181 c182 c183 c184 c185 c186 c187 c188 c189 c190 c191 c192 c193 c194 c195 c196 c197 c198 c199 c200 c201 c202 c203 c204 c205 c206 c207 c208 c209 c210 c211 c212 c213 c214 c215 c216 c217 : Value)
    (hend : ∀ (v7 v8 v9 v10 v11 v21 v22 v23 v24 v25 v26 v27 v28 v29 v30 v31 v32 v33 v34 v35 v36 v37 v38 v39 v40 v41 v42 v43 v44 v45 v46 v47 v48 v49 v50 v51 v52 v53 v54 v55 v56 v57 v58 v59 v60 v61 v62 v63 v64 v65 v66 v67 v68 v69 v70 v71 v72 v73 v74 v75 v76 v77 v78 v79 v80 v81 v82 v83 v84 v85 v86 v87 v88 v89 v90 v91 v92 v93 v' : Value) (w' : World), Below base w w' ∧ base ≤ w'.heap.size ∧ w'.ownsRow base 148 4 v' (E ++ ([⟨i, q.sensor, 0, ⟨#[]⟩⟩] : List EN)).length ((E ++ ([⟨i, q.sensor, 0, ⟨#[]⟩⟩] : List EN)).flatMap enCells) → P0 ⟨#[.slice (some ⟨rz, 0, none⟩) R.length R.length, .slice (some ⟨kb, 0, none⟩) K.length kc, c2, c3, c4, v', .int .i64 ((j + 1 : Nat) : Int), v7, v8, v9, v10, v11, c12, c13, c14, c15, c16, c17, c18, c19, c20, v21, v22, v23, v24, v25, v26, v27, v28, v29, v30, v31, v32, v33, v34, v35, v36, v37, v38, v39, v40, v41, v42, v43, v44, v45, v46, v47, v48, v49, v50, v51, v52, v53, v54, v55, v56, v57, v58, v59, v60, v61, v62, v63, v64, v65, v66, v67, v68, v69, v70, v71, v72, v73, v74, v75, v76, v77, v78, v79, v80, v81, v82, v83, v84, v85, v86, v87, v88, v89, v90, v91, v92, v93, c94, c95, c96, c97, c98, c99, c100, c101, c102, c103, c104, c105, c106, c107, c108, c109, c110, c111, c112, c113, c114, c115, c116, c117, c118, c119, c120, c121, c122, c123, c124, c125, c126, c127, c128, c129, c130, c131, c132, c133, c134, c135, c136, c137, c138, c139, c140, c141, c142, c143, c144, c145, c146, c147, c148, c149, c150, c151, c152, c153, c154, c155, c156, c157, c158, c159, c160, c161, c162, c163, c164, c165, c166, c167, c168, c169, c170, c171, c172, c173, c174, c175, c176, c177, c178, c179, c180, c181, c182, c183, c184, c185, c186, c187, c188, c189, c190, c191, c192, c193, c194, c195, c196, c197, c198, c199, c200, c201, c202, c203, c204, c205, c206, c207, c208, c209, c210, c211, c212, c213, c214, c215, c216, c217], []⟩ w') :
    Code.wp Try.prog body61a (Exit.then P0 Q0) ⟨#[.slice (some ⟨rz, 0, none⟩) R.length R.length, .slice (some ⟨kb, 0, none⟩) K.length kc, c2, c3, c4, v, .int .i64 j, u7, u8, u9, u10, u11, c12, c13, c14, c15, c16, c17, c18, c19, c20, u21, u22, u23, u24, u25, u26, u27, u28, u29, u30, u31, u32, u33, u34, u35, u36, u37, u38, u39, u40, u41, u42, u43, u44, u45, u46, u47, u48, u49, u50, u51, u52, u53, u54, u55, u56, u57, u58, u59, u60, u61, u62, u63, u64, u65, u66, u67, u68, u69, u70, u71, u72, u73, u74, u75, u76, u77, u78, u79, u80, u81, u82, u83, u84, u85, u86, u87, u88, u89, u90, u91, u92, u93, c94, c95, c96, c97, c98, c99, c100, c101, c102, c103, c104, c105, c106, c107, c108, c109, c110, c111, c112, c113, c114, c115, c116, c117, c118, c119, c120, c121, c122, c123, c124, c125, c126, c127, c128, c129, c130, c131, c132, c133, c134, c135, c136, c137, c138, c139, c140, c141, c142, c143, c144, c145, c146, c147, c148, c149, c150, c151, c152, c153, c154, c155, c156, c157, c158, c159, c160, c161, c162, c163, c164, c165, c166, c167, c168, c169, c170, c171, c172, c173, c174, c175, c176, c177, c178, c179, c180, c181, c182, c183, c184, c185, c186, c187, c188, c189, c190, c191, c192, c193, c194, c195, c196, c197, c198, c199, c200, c201, c202, c203, c204, c205, c206, c207, c208, c209, c210, c211, c212, c213, c214, c215, c216, c217], []⟩ wr := by
  conv => arg 2; whnf
  have hr0 : wr.rangeAt kb (j * 11) (zkCells q) := by
    obtain ⟨hj, rfl⟩ := List.getElem?_eq_some_iff.1 hq
    have := hK.out.range j hj
    rwa [Nat.zero_add] at this
  have HR0 : Hid (wr.rangeAt kb (j * 11) (zkCells q)) := hr0
  obtain ⟨f0, f1, f2, f3, f4, f5, f6, f7, f8, f9, f10⟩ := zkR hr0
  have HEND : Hid _ := hend
  clear hend hr0
  have HC : Hid (∀ nq, Calls Try.prog 68 #[.slice (some ⟨rz, 0, none⟩) R.length R.length, .string q.rule, .string q.metric, .string q.sev] (wr.drewN nq) fun e w' => e = .returned (.tuple #[.int .i64 (i : Int), .int .i64 0]) ∧ w' = wr.drewN nq) := fun nq => by
    have := zzmatch_any R q.rule q.metric q.sev rz (wr.drewN nq) (hR.out.below ⟨rfl, rfl, rfl, Nat.le_refl _, fun _ _ => rfl⟩) hRl hRs
    rw [hm] at this
    exact this.mono fun e w' h => ⟨h.1, h.2.symm⟩
  clear hR hK hRs hm hq
  go_wp2_with fail
  go_quiet (first | (go_at_call 68; refine Calls.quiet_of_same (HC.out _)))
  clear HC
  obtain ⟨V, hV⟩ : ∃ V, V = wr.drewN nq := ⟨_, rfl⟩
  rw [← hV]
  have bV : Below wr.heap.size wr V := by rw [hV]; exact ⟨rfl, rfl, rfl, Nat.le_refl _, fun _ _ => rfl⟩
  have HRV : Hid (V.rangeAt kb (j * 11) (zkCells q)) := range_below HR0.out bV
  have HBV : Hid (Below base w V ∧ base ≤ V.heap.size) := ⟨hb.out.1.trans (bV.mono hb.out.2), Nat.le_trans hb.out.2 bV.size⟩
  have HOV : Hid (V.ownsRow base 148 4 v E.length (E.flatMap enCells)) := owns_below ho.out bV
  clear hV bV ho hb HR0 f0 f1 f2 f3 f4 f5 f6 f7 f8 f9 f10
  obtain ⟨f0, f1, f2, f3, f4, f5, f6, f7, f8, f9, f10⟩ := zkR HRV.out
  obtain ⟨ea, ec, rfl, hEr⟩ := own_rows4 (f := enCells) (fun _ => rfl) E HOV.out
  go_wp2_with fail
  clear f0 f1 f2 f3 f4 f5 f6 f7 f8 f9 f10
  go_loopw [10, 11] (fun b x wr2 => ∃ k : Nat, k ≤ E.length ∧ b = .bool ((E.take k).any fun e => (e.rule == i && e.sensor.toList == q.sensor.toList)) ∧ x = .int .i64 k ∧ Below V.heap.size V wr2) (fun _ x _ => E.length - (intOf x).toNat)
  case atStart => exact ⟨0, Nat.zero_le _, rfl, rfl, Below.refl _ _⟩
  case round =>
    obtain ⟨k, hk, rfl, rfl, hb2⟩ := hrel
    by_cases hkE : k < E.length
    · have hat : E[k]? = some E[k] := by simp
      rcases hEr with h0 | ⟨g, rfl, hEr⟩
      · rw [h0] at hkE; simp at hkE
      have hr2 : wr.rangeAt g (k * 4) (enCells E[k]) := range_below (hEr k _ hat) hb2
      have hnx : (E.take (k + 1)).any (fun e => (e.rule == i && e.sensor.toList == q.sensor.toList)) = ((E.take k).any (fun e => (e.rule == i && e.sensor.toList == q.sensor.toList)) || (E[k].rule == i && E[k].sensor.toList == q.sensor.toList)) := by
        rw [List.take_succ_eq_append_getElem hkE, List.any_append]; simp
      generalize E[k] = e at *
      generalize (E.take k).any (fun e => (e.rule == i && e.sensor.toList == q.sensor.toList)) = b0 at *
      have HNX : Hid ((E.take (k + 1)).any (fun e => (e.rule == i && e.sensor.toList == q.sensor.toList)) = (b0 || (e.rule == i && e.sensor.toList == q.sensor.toList))) := hnx
      obtain ⟨h0, h1, h2, h3⟩ := enR hr2
      obtain ⟨f0, f1, f2, f3, f4, f5, f6, f7, f8, f9, f10⟩ := zkR (range_below HRV.out hb2)
      clear hr2 hnx
      by_cases hei : e.rule = i
      · have hei' : ((e.rule : Int) == (i : Int)) = true := by simp [hei]
        cases hse : (e.sensor.toList == q.sensor.toList)
        · have hse' : ¬ e.sensor.toList = q.sensor.toList := by simpa using hse
          go_wp2
          go_quiet (fail)
          go_wp2
          exact ⟨⟨k + 1, by omega, by rw [HNX.out, hse]; simp, by go_num, below_drewN hb2 _⟩, by simp [intOf]; omega⟩
        · have hse' : e.sensor.toList = q.sensor.toList := by simpa using hse
          go_wp2
          go_quiet (fail)
          go_wp2
          exact ⟨⟨k + 1, by omega, by rw [HNX.out, hse]; simp [hei], by go_num, below_drewN hb2 _⟩, by simp [intOf]; omega⟩
      · have hei' : ¬ (e.rule : Int) = (i : Int) := by omega
        have hei2 : (e.rule == i) = false := by simpa using hei
        go_wp2
        go_quiet (fail)
        go_wp2
        exact ⟨⟨k + 1, by omega, by rw [HNX.out, hei2]; simp, by go_num, below_drewN hb2 _⟩, by simp [intOf]; omega⟩
    · have hke : k = E.length := by omega
      subst hke
      have hsv : ((E.take E.length).any fun e => (e.rule == i && e.sensor.toList == q.sensor.toList)) = false := by rw [List.take_length]; exact hsn.out
      have HB3 : Hid (Below base w wr ∧ base ≤ wr.heap.size) := ⟨HBV.out.1.trans (hb2.mono HBV.out.2), Nat.le_trans HBV.out.2 hb2.size⟩
      have HO3 : Hid (wr.ownsRow base 148 4 (.slice ea E.length ec) E.length (E.flatMap enCells)) := owns_below HOV.out hb2
      obtain ⟨f0, f1, f2, f3, f4, f5, f6, f7, f8, f9, f10⟩ := zkR (range_below HRV.out hb2)
      clear hb2
      rw [hsv]
      obtain ⟨i148, z148, hi7, hz7, hs7, hby7, hzs7⟩ := info148'
      have HO4 : Hid ((wr.alloc (.cells (enCells (⟨i, q.sensor, 0, ⟨#[]⟩⟩ : EN)).toArray 148)).ownsRow base 148 4 (.slice ea E.length ec) E.length (E.flatMap enCells)) := HO3.out.alloc _
      have HBS : Hid (base ≤ (wr.alloc (.cells (enCells (⟨i, q.sensor, 0, ⟨#[]⟩⟩ : EN)).toArray 148)).heap.size) := Nat.le_trans HB3.out.2 (by simp)
      have HB4 : Hid (Below base w (wr.alloc (.cells (enCells (⟨i, q.sensor, 0, ⟨#[]⟩⟩ : EN)).toArray 148))) := HB3.out.1.alloc HB3.out.2 _
      go_wp2_with (at_builtin; refine wpList_append_own _ rfl _ _ 145 rfl base 148 i148 z148 4 48 Try.underlying145 hi7 hz7 hs7 hby7 hzs7 (by decide) _ _ _ rfl HO4.out ⟨wr.heap.size, 0, none⟩ 1 1 (enCells (⟨i, q.sensor, 0, ⟨#[]⟩⟩ : EN)) rfl rfl (en_new wr (⟨i, q.sensor, 0, ⟨#[]⟩⟩ : EN)) (enOne _) (by simp [maxLen]; omega) (by omega) HBS.out ?_; intro v3 w3 ho3 hg3 _)
      have hb3 : Below base w w3 := HB4.out.grown hg3 HBS.out (fun jj hj => (HO4.out.lt jj hj).1)
      have hs3 : base ≤ w3.heap.size := Nat.le_trans HBS.out hg3.size
      have ho4 : w3.ownsRow base 148 4 v3 (E ++ [(⟨i, q.sensor, 0, ⟨#[]⟩⟩ : EN)]).length ((E ++ [(⟨i, q.sensor, 0, ⟨#[]⟩⟩ : EN)]).flatMap enCells) := by
        rw [List.length_append, List.flatMap_append]; simpa using ho3
      first | exact ⟨hb3, hs3, ho4⟩ | exact HEND.out _ _ _ _ _ _ _ _ _ _ _ _ _ _ _ _ _ _ _ _ _ _ _ _ _ _ _ _ _ _ _ _ _ _ _ _ _ _ _ _ _ _ _ _ _ _ _ _ _ _ _ _ _ _ _ _ _ _ _ _ _ _ _ _ _ _ _ _ _ _ _ _ _ _ _ _ _ _ _ _ ⟨hb3, hs3, ho4⟩

end
end Go.Proofs.Qxb6605676a.Kz
