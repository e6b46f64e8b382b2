import Derived.Test.Qxb6605676aKz55
import Derived.Test.Qxb6605676aKz48
import Derived.Deep.RegionHeld3
namespace Go.Proofs.Qxb6605676a.Kz
set_option linter.unusedVariables false
set_option linter.unusedSimpArgs false
open Go.RowKit Go.Proofs.Qxb6605676a.Mp Go.Proofs.Qxb6605676a.Tm Go.Proofs.Qxb6605676a.En
noncomputable def body18 : Code := ((loopsOf (Try.f18.body.getD .skip))[0]?).getD .skip

section
variable {rz kb ga g : Nat} {R : List RuleD} {K : List ZK} {E : List EN} {D : List AcR} {w wr : World}

set_option maxHeartbeats 6400000 in
set_option maxRecDepth 100000 in
theorem w18 (P0 : Act → World → Prop) (Q0 : Exit → Act → World → Prop) (hQ0 : ∀ c a d v w, Q0 (.panic c) (Act.put a d v) w → Q0 (.panic c) a w) (e : EN) (q : ZK) (nm : ByteArray) (m a nE kc ca ec : Nat) (he : E[m]? = some e) (hmn : m < nE) (hE : nE ≤ 4096) (hn : K.length ≤ 4096) (hRl : R.length ≤ 1000) (hok : ZK.Ok q)
    (hd : D[m]? = some (⟨nm, e.sev, q.state, q.since, q.lts, q.sensor, q.metric, q.val⟩ : AcR)) (hr : e.rule < R.length) (hnm : Hid (wr.cell? ⟨rz, e.rule * 3, none⟩ = some (.string nm))) (hsrc : e.src = (a : Int)) (hza : K[a]? = some q)
    (hK : Hid (KeysAt wr kb 0 K)) (hb : Hid (Below w.heap.size w wr)) (ho : Hid (RowsAt wr g 4 enCells E)) (hA : Hid (RowsAt wr ga 12 acCells D)) (u6 u9 u10 u11 u20 u21 u22 u23 u24 u25 u26 u27 u28 u29 u30 u31 u32 u33 u34 u35 u36 u37 u38 u39 u40 u41 u42 u43 u44 u45 u46 u47 u48 u49 u50 u51 u52 u53 u54 u55 u56 u57 u58 u59 u60 u61 u62 u63 u64 u65 u66 u67 u68 u69 u70 u71 u72 u73 u74 u75 u76 u77 u78 u79 u80 u81 u82 u83 u84 u85 u86 u87 u88 u89 u90 u91 u92 u93 u94 u95 u96 u97 u98 u99 u100 u101 u102 u103 u104 u105 u106 u107 u108 u109 u110 u111 u112 u113 u114 u115 u116 u117 u118 u119 u120 u121 u122 u123 u124 u125 u126 u127 c3 c4 c5 c12 c13 c14 c15 c16 c17 c18 c19 : Value)
    (hend : ∀ (v6 v9 v10 v11 v20 v21 v22 v23 v24 v25 v26 v27 v28 v29 v30 v31 v32 v33 v34 v35 v36 v37 v38 v39 v40 v41 v42 v43 v44 v45 v46 v47 v48 v49 v50 v51 v52 v53 v54 v55 v56 v57 v58 v59 v60 v61 v62 v63 v64 v65 v66 v67 v68 v69 v70 v71 v72 v73 v74 v75 v76 v77 v78 v79 v80 v81 v82 v83 v84 v85 v86 v87 v88 v89 v90 v91 v92 v93 v94 v95 v96 v97 v98 v99 v100 v101 v102 v103 v104 v105 v106 v107 v108 v109 v110 v111 v112 v113 v114 v115 v116 v117 v118 v119 v120 v121 v122 v123 v124 v125 v126 v127 : Value) (w' : World), Below w.heap.size w w' → P0 ⟨#[.slice (some ⟨rz, 0, none⟩) R.length R.length, .slice (some ⟨kb, 0, none⟩) K.length kc, .slice (some ⟨ga, 0, none⟩) nE ca, c3, c4, c5, v6, .slice (some ⟨g, 0, none⟩) nE ec, .int .i64 ((m + 1 : Nat) : Int), v9, v10, v11, c12, c13, c14, c15, c16, c17, c18, c19, v20, v21, v22, v23, v24, v25, v26, v27, v28, v29, v30, v31, v32, v33, v34, v35, v36, v37, v38, v39, v40, v41, v42, v43, v44, v45, v46, v47, v48, v49, v50, v51, v52, v53, v54, v55, v56, v57, v58, v59, v60, v61, v62, v63, v64, v65, v66, v67, v68, v69, v70, v71, v72, v73, v74, v75, v76, v77, v78, v79, v80, v81, v82, v83, v84, v85, v86, v87, v88, v89, v90, v91, v92, v93, v94, v95, v96, v97, v98, v99, v100, v101, v102, v103, v104, v105, v106, v107, v108, v109, v110, v111, v112, v113, v114, v115, v116, v117, v118, v119, v120, v121, v122, v123, v124, v125, v126, v127], []⟩ w') :
    Code.wp Try.prog body18 (Exit.then P0 Q0) ⟨#[.slice (some ⟨rz, 0, none⟩) R.length R.length, .slice (some ⟨kb, 0, none⟩) K.length kc, .slice (some ⟨ga, 0, none⟩) nE ca, c3, c4, c5, u6, .slice (some ⟨g, 0, none⟩) nE ec, .int .i64 m, u9, u10, u11, c12, c13, c14, c15, c16, c17, c18, c19, u20, u21, u22, u23, u24, u25, u26, u27, u28, u29, u30, u31, u32, u33, u34, u35, u36, u37, u38, u39, u40, u41, u42, u43, u44, u45, u46, u47, u48, u49, u50, u51, u52, u53, u54, u55, u56, u57, u58, u59, u60, u61, u62, u63, u64, u65, u66, u67, u68, u69, u70, u71, u72, u73, u74, u75, u76, u77, u78, u79, u80, u81, u82, u83, u84, u85, u86, u87, u88, u89, u90, u91, u92, u93, u94, u95, u96, u97, u98, u99, u100, u101, u102, u103, u104, u105, u106, u107, u108, u109, u110, u111, u112, u113, u114, u115, u116, u117, u118, u119, u120, u121, u122, u123, u124, u125, u126, u127], []⟩ wr := by
  conv => arg 2; whnf
  have HEND : Hid _ := hend
  clear hend
  obtain ⟨hal, hza2⟩ := List.getElem?_eq_some_iff.1 hza
  have hkr : wr.rangeAt kb (a * 11) (zkCells q) := by
    have := hK.out.range a hal
    rw [hza2, Nat.zero_add] at this
    exact this
  have HKR : Hid (wr.rangeAt kb (a * 11) (zkCells q)) := hkr
  have HAR : Hid (wr.rangeAt ga (m * 12) (acCells ⟨nm, e.sev, q.state, q.since, q.lts, q.sensor, q.metric, q.val⟩)) := hA.out m _ hd
  obtain ⟨f0, f1, f2, f3, f4, f5, f6, f7, f8, f9, f10⟩ := zkR hkr
  obtain ⟨a0, a1, a2, a3, a4, a5, a6, a7, a8, a9, a10, a11⟩ := acR HAR.out
  obtain ⟨h0, h1, h2, h3⟩ := enR (ho.out m e he)
  rw [hsrc] at h2
  have hN := hnm.out
  have l1 := World.block_lt_of_cell? wr _ f0
  have l2 := World.block_lt_of_cell? wr _ a0
  have l3 := World.block_lt_of_cell? wr _ h0
  have l4 := World.block_lt_of_cell? wr _ hN
  clear hkr hK hA ho hnm hsrc hza2
  go_wp2_with fail
  go_quiet (fail)
  go_wp2_with fail
  generalize hWQ : World.drewN _ _ = WQ
  have bQ : Below wr.heap.size wr WQ := by rw [← hWQ]; exact below_drewN ((Below.refl _ _).alloc (Nat.le_refl _) _) _
  have HG3 : Hid (WQ.rangeAt ga (m * 12) (acCells ⟨nm, e.sev, q.state, q.since, q.lts, q.sensor, q.metric, q.val⟩)) := range_below HAR.out bQ
  have HR3 : Hid (WQ.rangeAt kb (a * 11) (zkCells q)) := range_below HKR.out bQ
  have HB3 : Hid (Below w.heap.size w WQ) := Below.step hb.out bQ
  clear hWQ bQ f0 f1 f2 f3 f4 f5 f6 f7 f8 f9 f10 a0 a1 a2 a3 a4 a5 a6 a7 a8 a9 a10 a11 h0 h1 h2 h3 hN l1 l2 l3 l4 HAR HKR hb
  refine wp_region_held_drew (S := (fun W => W.rangeAt ga (m * 12) (acCells ⟨nm, e.sev, q.state, q.since, q.lts, q.sensor, q.metric, q.val⟩) ∧ W.rangeAt kb (a * 11) (zkCells q))) (by kernel_rfl) ⟨HG3.out, HR3.out⟩ (fun hHeld => ?_)
  refine wpAnyH_take (i := 0) (v := ?_) rfl (by kernel_rfl) (by kernel_rfl) (by kernel_rfl) (fun c a w h => hQ0 c a _ _ w h) (Or.inl ⟨by rfl, ?_⟩) hHeld ?_
  rotate_left
  · intro w0 hSw; (try dsimp only at hSw); obtain ⟨r1, r2⟩ := hSw; obtain ⟨a0, a1, a2, a3, a4, a5, a6, a7, a8, a9, a10, a11⟩ := acR r1; obtain ⟨f0, f1, f2, f3, f4, f5, f6, f7, f8, f9, f10⟩ := zkR r2; go_simp <;> with_reducible rfl
  try simp only [Act.put, List.getElem_toArray, List.getElem_cons_zero, List.getElem_cons_succ, List.setIfInBounds_toArray, List.set_cons_zero, List.set_cons_succ]
  refine wpAnyH_take (i := 1) (v := ?_) rfl (by kernel_rfl) (by kernel_rfl) (by kernel_rfl) (fun c a w h => hQ0 c a _ _ w h) (Or.inl ⟨by rfl, ?_⟩) hHeld ?_
  rotate_left
  · intro w0 hSw; (try dsimp only at hSw); obtain ⟨r1, r2⟩ := hSw; obtain ⟨a0, a1, a2, a3, a4, a5, a6, a7, a8, a9, a10, a11⟩ := acR r1; obtain ⟨f0, f1, f2, f3, f4, f5, f6, f7, f8, f9, f10⟩ := zkR r2; go_simp <;> with_reducible rfl
  try simp only [Act.put, List.getElem_toArray, List.getElem_cons_zero, List.getElem_cons_succ, List.setIfInBounds_toArray, List.set_cons_zero, List.set_cons_succ]
  refine wpAnyH_take (i := 2) (v := ?_) rfl (by kernel_rfl) (by kernel_rfl) (by kernel_rfl) (fun c a w h => hQ0 c a _ _ w h) (Or.inl ⟨by rfl, ?_⟩) hHeld ?_
  rotate_left
  · intro w0 hSw; (try dsimp only at hSw); obtain ⟨r1, r2⟩ := hSw; obtain ⟨a0, a1, a2, a3, a4, a5, a6, a7, a8, a9, a10, a11⟩ := acR r1; obtain ⟨f0, f1, f2, f3, f4, f5, f6, f7, f8, f9, f10⟩ := zkR r2; go_simp <;> with_reducible rfl
  try simp only [Act.put, List.getElem_toArray, List.getElem_cons_zero, List.getElem_cons_succ, List.setIfInBounds_toArray, List.set_cons_zero, List.set_cons_succ]
  refine wpAnyH_take (i := 3) (v := ?_) rfl (by kernel_rfl) (by kernel_rfl) (by kernel_rfl) (fun c a w h => hQ0 c a _ _ w h) (Or.inl ⟨by rfl, ?_⟩) hHeld ?_
  rotate_left
  · intro w0 hSw; (try dsimp only at hSw); obtain ⟨r1, r2⟩ := hSw; obtain ⟨a0, a1, a2, a3, a4, a5, a6, a7, a8, a9, a10, a11⟩ := acR r1; obtain ⟨f0, f1, f2, f3, f4, f5, f6, f7, f8, f9, f10⟩ := zkR r2; go_simp <;> with_reducible rfl
  try simp only [Act.put, List.getElem_toArray, List.getElem_cons_zero, List.getElem_cons_succ, List.setIfInBounds_toArray, List.set_cons_zero, List.set_cons_succ]
  refine wpAnyH_take (i := 5) (v := ?_) rfl (by kernel_rfl) (by kernel_rfl) (by kernel_rfl) (fun c a w h => hQ0 c a _ _ w h) (Or.inl ⟨by rfl, ?_⟩) hHeld ?_
  rotate_left
  · intro w0 hSw; (try dsimp only at hSw); obtain ⟨r1, r2⟩ := hSw; obtain ⟨a0, a1, a2, a3, a4, a5, a6, a7, a8, a9, a10, a11⟩ := acR r1; obtain ⟨f0, f1, f2, f3, f4, f5, f6, f7, f8, f9, f10⟩ := zkR r2; go_simp <;> with_reducible rfl
  try simp only [Act.put, List.getElem_toArray, List.getElem_cons_zero, List.getElem_cons_succ, List.setIfInBounds_toArray, List.set_cons_zero, List.set_cons_succ]
  refine wpAnyH_take (i := 6) (v := ?_) rfl (by kernel_rfl) (by kernel_rfl) (by kernel_rfl) (fun c a w h => hQ0 c a _ _ w h) (Or.inl ⟨by rfl, ?_⟩) hHeld ?_
  rotate_left
  · intro w0 hSw; (try dsimp only at hSw); obtain ⟨r1, r2⟩ := hSw; obtain ⟨a0, a1, a2, a3, a4, a5, a6, a7, a8, a9, a10, a11⟩ := acR r1; obtain ⟨f0, f1, f2, f3, f4, f5, f6, f7, f8, f9, f10⟩ := zkR r2; go_simp <;> with_reducible rfl
  try simp only [Act.put, List.getElem_toArray, List.getElem_cons_zero, List.getElem_cons_succ, List.setIfInBounds_toArray, List.set_cons_zero, List.set_cons_succ]
  refine wpAnyH_take (i := 7) (v := ?_) rfl (by kernel_rfl) (by kernel_rfl) (by kernel_rfl) (fun c a w h => hQ0 c a _ _ w h) (Or.inl ⟨by rfl, ?_⟩) hHeld ?_
  rotate_left
  · intro w0 hSw; (try dsimp only at hSw); obtain ⟨r1, r2⟩ := hSw; obtain ⟨a0, a1, a2, a3, a4, a5, a6, a7, a8, a9, a10, a11⟩ := acR r1; obtain ⟨f0, f1, f2, f3, f4, f5, f6, f7, f8, f9, f10⟩ := zkR r2; go_simp <;> with_reducible rfl
  try simp only [Act.put, List.getElem_toArray, List.getElem_cons_zero, List.getElem_cons_succ, List.setIfInBounds_toArray, List.set_cons_zero, List.set_cons_succ]
  refine wpAnyH_take (i := 8) (v := ?_) rfl (by kernel_rfl) (by kernel_rfl) (by kernel_rfl) (fun c a w h => hQ0 c a _ _ w h) (Or.inl ⟨by rfl, ?_⟩) hHeld ?_
  rotate_left
  · intro w0 hSw; (try dsimp only at hSw); obtain ⟨r1, r2⟩ := hSw; obtain ⟨a0, a1, a2, a3, a4, a5, a6, a7, a8, a9, a10, a11⟩ := acR r1; obtain ⟨f0, f1, f2, f3, f4, f5, f6, f7, f8, f9, f10⟩ := zkR r2; go_simp <;> with_reducible rfl
  try simp only [Act.put, List.getElem_toArray, List.getElem_cons_zero, List.getElem_cons_succ, List.setIfInBounds_toArray, List.set_cons_zero, List.set_cons_succ]
  refine wpAnyH_ready (rs := [4]) (by kernel_rfl) (by simp) ?_
  refine AllReadyH.cons rfl (fun K0 hK0 => ?_) AllReadyH.nil
  rw [if_pos (by first | (simp [Region.wanted]; done) | rfl)]
  go_simp
  refine (nanosI q.since _ hok.since).mono ?_
  rintro e' x0 ⟨rfl, bx0⟩
  have bx0' : Below WQ.heap.size WQ x0 := ⟨bx0.os, bx0.tape, bx0.output, bx0.size, bx0.block⟩
  refine hK0.out _ _ ⟨range_below HG3.out bx0', range_below HR3.out bx0'⟩ (fun hHeld => ?_)
  clear hK0 K0
  try simp only [Act.put, List.getElem_toArray, List.getElem_cons_zero, List.getElem_cons_succ, List.setIfInBounds_toArray, List.set_cons_zero, List.set_cons_succ]
  refine wpAnyH_take (i := 9) (v := ?_) rfl (by kernel_rfl) (by kernel_rfl) (by kernel_rfl) (fun c a w h => hQ0 c a _ _ w h) (Or.inl ⟨by rfl, ?_⟩) hHeld ?_
  rotate_left
  · intro w0 hSw; (try dsimp only at hSw); obtain ⟨r1, r2⟩ := hSw; obtain ⟨a0, a1, a2, a3, a4, a5, a6, a7, a8, a9, a10, a11⟩ := acR r1; obtain ⟨f0, f1, f2, f3, f4, f5, f6, f7, f8, f9, f10⟩ := zkR r2; go_simp <;> with_reducible rfl
  try simp only [Act.put, List.getElem_toArray, List.getElem_cons_zero, List.getElem_cons_succ, List.setIfInBounds_toArray, List.set_cons_zero, List.set_cons_succ]
  refine wpAnyH_take (i := 10) (v := ?_) rfl (by kernel_rfl) (by kernel_rfl) (by kernel_rfl) (fun c a w h => hQ0 c a _ _ w h) (Or.inl ⟨by rfl, ?_⟩) hHeld ?_
  rotate_left
  · intro w0 hSw; (try dsimp only at hSw); obtain ⟨r1, r2⟩ := hSw; obtain ⟨a0, a1, a2, a3, a4, a5, a6, a7, a8, a9, a10, a11⟩ := acR r1; obtain ⟨f0, f1, f2, f3, f4, f5, f6, f7, f8, f9, f10⟩ := zkR r2; go_simp <;> with_reducible rfl
  try simp only [Act.put, List.getElem_toArray, List.getElem_cons_zero, List.getElem_cons_succ, List.setIfInBounds_toArray, List.set_cons_zero, List.set_cons_succ]
  refine wpAnyH_take (i := 11) (v := ?_) rfl (by kernel_rfl) (by kernel_rfl) (by kernel_rfl) (fun c a w h => hQ0 c a _ _ w h) (Or.inl ⟨by rfl, ?_⟩) hHeld ?_
  rotate_left
  · intro w0 hSw; (try dsimp only at hSw); obtain ⟨r1, r2⟩ := hSw; obtain ⟨a0, a1, a2, a3, a4, a5, a6, a7, a8, a9, a10, a11⟩ := acR r1; obtain ⟨f0, f1, f2, f3, f4, f5, f6, f7, f8, f9, f10⟩ := zkR r2; go_simp <;> with_reducible rfl
  try simp only [Act.put, List.getElem_toArray, List.getElem_cons_zero, List.getElem_cons_succ, List.setIfInBounds_toArray, List.set_cons_zero, List.set_cons_succ]
  refine wpAnyH_take (i := 12) (v := ?_) rfl (by kernel_rfl) (by kernel_rfl) (by kernel_rfl) (fun c a w h => hQ0 c a _ _ w h) (Or.inl ⟨by rfl, ?_⟩) hHeld ?_
  rotate_left
  · intro w0 hSw; (try dsimp only at hSw); obtain ⟨r1, r2⟩ := hSw; obtain ⟨a0, a1, a2, a3, a4, a5, a6, a7, a8, a9, a10, a11⟩ := acR r1; obtain ⟨f0, f1, f2, f3, f4, f5, f6, f7, f8, f9, f10⟩ := zkR r2; go_simp <;> with_reducible rfl
  try simp only [Act.put, List.getElem_toArray, List.getElem_cons_zero, List.getElem_cons_succ, List.setIfInBounds_toArray, List.set_cons_zero, List.set_cons_succ]
  refine wpAnyH_take (i := 13) (v := ?_) rfl (by kernel_rfl) (by kernel_rfl) (by kernel_rfl) (fun c a w h => hQ0 c a _ _ w h) (Or.inl ⟨by rfl, ?_⟩) hHeld ?_
  rotate_left
  · intro w0 hSw; (try dsimp only at hSw); obtain ⟨r1, r2⟩ := hSw; obtain ⟨a0, a1, a2, a3, a4, a5, a6, a7, a8, a9, a10, a11⟩ := acR r1; obtain ⟨f0, f1, f2, f3, f4, f5, f6, f7, f8, f9, f10⟩ := zkR r2; go_simp <;> with_reducible rfl
  try simp only [Act.put, List.getElem_toArray, List.getElem_cons_zero, List.getElem_cons_succ, List.setIfInBounds_toArray, List.set_cons_zero, List.set_cons_succ]
  refine wpAnyH_take (i := 14) (v := ?_) rfl (by kernel_rfl) (by kernel_rfl) (by kernel_rfl) (fun c a w h => hQ0 c a _ _ w h) (Or.inl ⟨by rfl, ?_⟩) hHeld ?_
  rotate_left
  · intro w0 hSw; (try dsimp only at hSw); obtain ⟨r1, r2⟩ := hSw; obtain ⟨a0, a1, a2, a3, a4, a5, a6, a7, a8, a9, a10, a11⟩ := acR r1; obtain ⟨f0, f1, f2, f3, f4, f5, f6, f7, f8, f9, f10⟩ := zkR r2; go_simp <;> with_reducible rfl
  try simp only [Act.put, List.getElem_toArray, List.getElem_cons_zero, List.getElem_cons_succ, List.setIfInBounds_toArray, List.set_cons_zero, List.set_cons_succ]
  refine wpAnyH_take (i := 15) (v := ?_) rfl (by kernel_rfl) (by kernel_rfl) (by kernel_rfl) (fun c a w h => hQ0 c a _ _ w h) (Or.inl ⟨by rfl, ?_⟩) hHeld ?_
  rotate_left
  · intro w0 hSw; (try dsimp only at hSw); obtain ⟨r1, r2⟩ := hSw; obtain ⟨a0, a1, a2, a3, a4, a5, a6, a7, a8, a9, a10, a11⟩ := acR r1; obtain ⟨f0, f1, f2, f3, f4, f5, f6, f7, f8, f9, f10⟩ := zkR r2; go_simp <;> with_reducible rfl
  try simp only [Act.put, List.getElem_toArray, List.getElem_cons_zero, List.getElem_cons_succ, List.setIfInBounds_toArray, List.set_cons_zero, List.set_cons_succ]
  refine wpAnyH_take (i := 17) (v := ?_) rfl (by kernel_rfl) (by kernel_rfl) (by kernel_rfl) (fun c a w h => hQ0 c a _ _ w h) (Or.inl ⟨by rfl, ?_⟩) hHeld ?_
  rotate_left
  · intro w0 hSw; (try dsimp only at hSw); obtain ⟨r1, r2⟩ := hSw; obtain ⟨a0, a1, a2, a3, a4, a5, a6, a7, a8, a9, a10, a11⟩ := acR r1; obtain ⟨f0, f1, f2, f3, f4, f5, f6, f7, f8, f9, f10⟩ := zkR r2; go_simp <;> with_reducible rfl
  try simp only [Act.put, List.getElem_toArray, List.getElem_cons_zero, List.getElem_cons_succ, List.setIfInBounds_toArray, List.set_cons_zero, List.set_cons_succ]
  refine wpAnyH_take (i := 18) (v := ?_) rfl (by kernel_rfl) (by kernel_rfl) (by kernel_rfl) (fun c a w h => hQ0 c a _ _ w h) (Or.inl ⟨by rfl, ?_⟩) hHeld ?_
  rotate_left
  · intro w0 hSw; (try dsimp only at hSw); obtain ⟨r1, r2⟩ := hSw; obtain ⟨a0, a1, a2, a3, a4, a5, a6, a7, a8, a9, a10, a11⟩ := acR r1; obtain ⟨f0, f1, f2, f3, f4, f5, f6, f7, f8, f9, f10⟩ := zkR r2; go_simp <;> with_reducible rfl
  try simp only [Act.put, List.getElem_toArray, List.getElem_cons_zero, List.getElem_cons_succ, List.setIfInBounds_toArray, List.set_cons_zero, List.set_cons_succ]
  refine wpAnyH_take (i := 19) (v := ?_) rfl (by kernel_rfl) (by kernel_rfl) (by kernel_rfl) (fun c a w h => hQ0 c a _ _ w h) (Or.inl ⟨by rfl, ?_⟩) hHeld ?_
  rotate_left
  · intro w0 hSw; (try dsimp only at hSw); obtain ⟨r1, r2⟩ := hSw; obtain ⟨a0, a1, a2, a3, a4, a5, a6, a7, a8, a9, a10, a11⟩ := acR r1; obtain ⟨f0, f1, f2, f3, f4, f5, f6, f7, f8, f9, f10⟩ := zkR r2; go_simp <;> with_reducible rfl
  try simp only [Act.put, List.getElem_toArray, List.getElem_cons_zero, List.getElem_cons_succ, List.setIfInBounds_toArray, List.set_cons_zero, List.set_cons_succ]
  refine wpAnyH_take (i := 20) (v := ?_) rfl (by kernel_rfl) (by kernel_rfl) (by kernel_rfl) (fun c a w h => hQ0 c a _ _ w h) (Or.inl ⟨by rfl, ?_⟩) hHeld ?_
  rotate_left
  · intro w0 hSw; (try dsimp only at hSw); obtain ⟨r1, r2⟩ := hSw; obtain ⟨a0, a1, a2, a3, a4, a5, a6, a7, a8, a9, a10, a11⟩ := acR r1; obtain ⟨f0, f1, f2, f3, f4, f5, f6, f7, f8, f9, f10⟩ := zkR r2; go_simp <;> with_reducible rfl
  try simp only [Act.put, List.getElem_toArray, List.getElem_cons_zero, List.getElem_cons_succ, List.setIfInBounds_toArray, List.set_cons_zero, List.set_cons_succ]
  refine wpAnyH_ready (rs := [16]) (by kernel_rfl) (by simp) ?_
  refine AllReadyH.cons rfl (fun K0 hK0 => ?_) AllReadyH.nil
  rw [if_pos (by first | (simp [Region.wanted]; done) | rfl)]
  go_simp
  refine (nanosI q.lts _ hok.lts).mono ?_
  rintro e' x1 ⟨rfl, bx1⟩
  have bx1' : Below WQ.heap.size WQ x1 := Below.step bx0' bx1
  refine hK0.out _ _ ⟨range_below HG3.out bx1', range_below HR3.out bx1'⟩ (fun hHeld => ?_)
  clear hK0 K0
  try simp only [Act.put, List.getElem_toArray, List.getElem_cons_zero, List.getElem_cons_succ, List.setIfInBounds_toArray, List.set_cons_zero, List.set_cons_succ]
  refine wpAnyH_take (i := 21) (v := ?_) rfl (by kernel_rfl) (by kernel_rfl) (by kernel_rfl) (fun c a w h => hQ0 c a _ _ w h) (Or.inl ⟨by rfl, ?_⟩) hHeld ?_
  rotate_left
  · intro w0 hSw; (try dsimp only at hSw); obtain ⟨r1, r2⟩ := hSw; obtain ⟨a0, a1, a2, a3, a4, a5, a6, a7, a8, a9, a10, a11⟩ := acR r1; obtain ⟨f0, f1, f2, f3, f4, f5, f6, f7, f8, f9, f10⟩ := zkR r2; go_simp <;> with_reducible rfl
  try simp only [Act.put, List.getElem_toArray, List.getElem_cons_zero, List.getElem_cons_succ, List.setIfInBounds_toArray, List.set_cons_zero, List.set_cons_succ]
  refine wpAnyH_take (i := 22) (v := ?_) rfl (by kernel_rfl) (by kernel_rfl) (by kernel_rfl) (fun c a w h => hQ0 c a _ _ w h) (Or.inl ⟨by rfl, ?_⟩) hHeld ?_
  rotate_left
  · intro w0 hSw; (try dsimp only at hSw); obtain ⟨r1, r2⟩ := hSw; obtain ⟨a0, a1, a2, a3, a4, a5, a6, a7, a8, a9, a10, a11⟩ := acR r1; obtain ⟨f0, f1, f2, f3, f4, f5, f6, f7, f8, f9, f10⟩ := zkR r2; go_simp <;> with_reducible rfl
  try simp only [Act.put, List.getElem_toArray, List.getElem_cons_zero, List.getElem_cons_succ, List.setIfInBounds_toArray, List.set_cons_zero, List.set_cons_succ]
  refine wpAnyH_take (i := 23) (v := ?_) rfl (by kernel_rfl) (by kernel_rfl) (by kernel_rfl) (fun c a w h => hQ0 c a _ _ w h) (Or.inl ⟨by rfl, ?_⟩) hHeld ?_
  rotate_left
  · intro w0 hSw; (try dsimp only at hSw); obtain ⟨r1, r2⟩ := hSw; obtain ⟨a0, a1, a2, a3, a4, a5, a6, a7, a8, a9, a10, a11⟩ := acR r1; obtain ⟨f0, f1, f2, f3, f4, f5, f6, f7, f8, f9, f10⟩ := zkR r2; go_simp <;> with_reducible rfl
  try simp only [Act.put, List.getElem_toArray, List.getElem_cons_zero, List.getElem_cons_succ, List.setIfInBounds_toArray, List.set_cons_zero, List.set_cons_succ]
  refine wpAnyH_take (i := 24) (v := ?_) rfl (by kernel_rfl) (by kernel_rfl) (by kernel_rfl) (fun c a w h => hQ0 c a _ _ w h) (Or.inl ⟨by rfl, ?_⟩) hHeld ?_
  rotate_left
  · intro w0 hSw; (try dsimp only at hSw); obtain ⟨r1, r2⟩ := hSw; obtain ⟨a0, a1, a2, a3, a4, a5, a6, a7, a8, a9, a10, a11⟩ := acR r1; obtain ⟨f0, f1, f2, f3, f4, f5, f6, f7, f8, f9, f10⟩ := zkR r2; go_simp <;> with_reducible rfl
  try simp only [Act.put, List.getElem_toArray, List.getElem_cons_zero, List.getElem_cons_succ, List.setIfInBounds_toArray, List.set_cons_zero, List.set_cons_succ]
  refine wpAnyH_take (i := 25) (v := ?_) rfl (by kernel_rfl) (by kernel_rfl) (by kernel_rfl) (fun c a w h => hQ0 c a _ _ w h) (Or.inl ⟨by rfl, ?_⟩) hHeld ?_
  rotate_left
  · intro w0 hSw; (try dsimp only at hSw); obtain ⟨r1, r2⟩ := hSw; obtain ⟨a0, a1, a2, a3, a4, a5, a6, a7, a8, a9, a10, a11⟩ := acR r1; obtain ⟨f0, f1, f2, f3, f4, f5, f6, f7, f8, f9, f10⟩ := zkR r2; go_simp <;> with_reducible rfl
  try simp only [Act.put, List.getElem_toArray, List.getElem_cons_zero, List.getElem_cons_succ, List.setIfInBounds_toArray, List.set_cons_zero, List.set_cons_succ]
  refine wpAnyH_take (i := 26) (v := ?_) rfl (by kernel_rfl) (by kernel_rfl) (by kernel_rfl) (fun c a w h => hQ0 c a _ _ w h) (Or.inl ⟨by rfl, ?_⟩) hHeld ?_
  rotate_left
  · intro w0 hSw; (try dsimp only at hSw); obtain ⟨r1, r2⟩ := hSw; obtain ⟨a0, a1, a2, a3, a4, a5, a6, a7, a8, a9, a10, a11⟩ := acR r1; obtain ⟨f0, f1, f2, f3, f4, f5, f6, f7, f8, f9, f10⟩ := zkR r2; go_simp <;> with_reducible rfl
  try simp only [Act.put, List.getElem_toArray, List.getElem_cons_zero, List.getElem_cons_succ, List.setIfInBounds_toArray, List.set_cons_zero, List.set_cons_succ]
  refine wpAnyH_take (i := 27) (v := ?_) rfl (by kernel_rfl) (by kernel_rfl) (by kernel_rfl) (fun c a w h => hQ0 c a _ _ w h) (Or.inl ⟨by rfl, ?_⟩) hHeld ?_
  rotate_left
  · intro w0 hSw; (try dsimp only at hSw); obtain ⟨r1, r2⟩ := hSw; obtain ⟨a0, a1, a2, a3, a4, a5, a6, a7, a8, a9, a10, a11⟩ := acR r1; obtain ⟨f0, f1, f2, f3, f4, f5, f6, f7, f8, f9, f10⟩ := zkR r2; go_simp <;> with_reducible rfl
  try simp only [Act.put, List.getElem_toArray, List.getElem_cons_zero, List.getElem_cons_succ, List.setIfInBounds_toArray, List.set_cons_zero, List.set_cons_succ]
  refine wpAnyH_take (i := 28) (v := ?_) rfl (by kernel_rfl) (by kernel_rfl) (by kernel_rfl) (fun c a w h => hQ0 c a _ _ w h) (Or.inl ⟨by rfl, ?_⟩) hHeld ?_
  rotate_left
  · intro w0 hSw; (try dsimp only at hSw); obtain ⟨r1, r2⟩ := hSw; obtain ⟨a0, a1, a2, a3, a4, a5, a6, a7, a8, a9, a10, a11⟩ := acR r1; obtain ⟨f0, f1, f2, f3, f4, f5, f6, f7, f8, f9, f10⟩ := zkR r2; go_simp <;> with_reducible rfl
  try simp only [Act.put, List.getElem_toArray, List.getElem_cons_zero, List.getElem_cons_succ, List.setIfInBounds_toArray, List.set_cons_zero, List.set_cons_succ]
  refine wpAnyH_take (i := 29) (v := ?_) rfl (by kernel_rfl) (by kernel_rfl) (by kernel_rfl) (fun c a w h => hQ0 c a _ _ w h) (Or.inl ⟨by rfl, ?_⟩) hHeld ?_
  rotate_left
  · intro w0 hSw; (try dsimp only at hSw); obtain ⟨r1, r2⟩ := hSw; obtain ⟨a0, a1, a2, a3, a4, a5, a6, a7, a8, a9, a10, a11⟩ := acR r1; obtain ⟨f0, f1, f2, f3, f4, f5, f6, f7, f8, f9, f10⟩ := zkR r2; go_simp <;> with_reducible rfl
  try simp only [Act.put, List.getElem_toArray, List.getElem_cons_zero, List.getElem_cons_succ, List.setIfInBounds_toArray, List.set_cons_zero, List.set_cons_succ]
  refine wpAnyH_take (i := 30) (v := ?_) rfl (by kernel_rfl) (by kernel_rfl) (by kernel_rfl) (fun c a w h => hQ0 c a _ _ w h) (Or.inl ⟨by rfl, ?_⟩) hHeld ?_
  rotate_left
  · intro w0 hSw; (try dsimp only at hSw); obtain ⟨r1, r2⟩ := hSw; obtain ⟨a0, a1, a2, a3, a4, a5, a6, a7, a8, a9, a10, a11⟩ := acR r1; obtain ⟨f0, f1, f2, f3, f4, f5, f6, f7, f8, f9, f10⟩ := zkR r2; go_simp <;> with_reducible rfl
  try simp only [Act.put, List.getElem_toArray, List.getElem_cons_zero, List.getElem_cons_succ, List.setIfInBounds_toArray, List.set_cons_zero, List.set_cons_succ]
  refine wpAnyH_take (i := 31) (v := ?_) rfl (by kernel_rfl) (by kernel_rfl) (by kernel_rfl) (fun c a w h => hQ0 c a _ _ w h) (Or.inl ⟨by rfl, ?_⟩) hHeld ?_
  rotate_left
  · intro w0 hSw; (try dsimp only at hSw); obtain ⟨r1, r2⟩ := hSw; obtain ⟨a0, a1, a2, a3, a4, a5, a6, a7, a8, a9, a10, a11⟩ := acR r1; obtain ⟨f0, f1, f2, f3, f4, f5, f6, f7, f8, f9, f10⟩ := zkR r2; go_simp <;> with_reducible rfl
  try simp only [Act.put, List.getElem_toArray, List.getElem_cons_zero, List.getElem_cons_succ, List.setIfInBounds_toArray, List.set_cons_zero, List.set_cons_succ]
  refine wpAnyH_take (i := 32) (v := ?_) rfl (by kernel_rfl) (by kernel_rfl) (by kernel_rfl) (fun c a w h => hQ0 c a _ _ w h) (Or.inl ⟨by rfl, ?_⟩) hHeld ?_
  rotate_left
  · intro w0 hSw; (try dsimp only at hSw); obtain ⟨r1, r2⟩ := hSw; obtain ⟨a0, a1, a2, a3, a4, a5, a6, a7, a8, a9, a10, a11⟩ := acR r1; obtain ⟨f0, f1, f2, f3, f4, f5, f6, f7, f8, f9, f10⟩ := zkR r2; go_simp <;> with_reducible rfl
  try simp only [Act.put, List.getElem_toArray, List.getElem_cons_zero, List.getElem_cons_succ, List.setIfInBounds_toArray, List.set_cons_zero, List.set_cons_succ]
  refine wpAnyH_take (i := 33) (v := ?_) rfl (by kernel_rfl) (by kernel_rfl) (by kernel_rfl) (fun c a w h => hQ0 c a _ _ w h) (Or.inl ⟨by rfl, ?_⟩) hHeld ?_
  rotate_left
  · intro w0 hSw; (try dsimp only at hSw); obtain ⟨r1, r2⟩ := hSw; obtain ⟨a0, a1, a2, a3, a4, a5, a6, a7, a8, a9, a10, a11⟩ := acR r1; obtain ⟨f0, f1, f2, f3, f4, f5, f6, f7, f8, f9, f10⟩ := zkR r2; go_simp <;> with_reducible rfl
  try simp only [Act.put, List.getElem_toArray, List.getElem_cons_zero, List.getElem_cons_succ, List.setIfInBounds_toArray, List.set_cons_zero, List.set_cons_succ]
  refine wpAnyH_take (i := 34) (v := ?_) rfl (by kernel_rfl) (by kernel_rfl) (by kernel_rfl) (fun c a w h => hQ0 c a _ _ w h) (Or.inl ⟨by rfl, ?_⟩) hHeld ?_
  rotate_left
  · intro w0 hSw; (try dsimp only at hSw); obtain ⟨r1, r2⟩ := hSw; obtain ⟨a0, a1, a2, a3, a4, a5, a6, a7, a8, a9, a10, a11⟩ := acR r1; obtain ⟨f0, f1, f2, f3, f4, f5, f6, f7, f8, f9, f10⟩ := zkR r2; go_simp <;> with_reducible rfl
  try simp only [Act.put, List.getElem_toArray, List.getElem_cons_zero, List.getElem_cons_succ, List.setIfInBounds_toArray, List.set_cons_zero, List.set_cons_succ]
  refine wpAnyH_take (i := 35) (v := ?_) rfl (by kernel_rfl) (by kernel_rfl) (by kernel_rfl) (fun c a w h => hQ0 c a _ _ w h) (Or.inl ⟨by rfl, ?_⟩) hHeld ?_
  rotate_left
  · intro w0 hSw; (try dsimp only at hSw); obtain ⟨r1, r2⟩ := hSw; obtain ⟨a0, a1, a2, a3, a4, a5, a6, a7, a8, a9, a10, a11⟩ := acR r1; obtain ⟨f0, f1, f2, f3, f4, f5, f6, f7, f8, f9, f10⟩ := zkR r2; go_simp <;> with_reducible rfl
  try simp only [Act.put, List.getElem_toArray, List.getElem_cons_zero, List.getElem_cons_succ, List.setIfInBounds_toArray, List.set_cons_zero, List.set_cons_succ]
  refine wpAnyH_take (i := 36) (v := ?_) rfl (by kernel_rfl) (by kernel_rfl) (by kernel_rfl) (fun c a w h => hQ0 c a _ _ w h) (Or.inl ⟨by rfl, ?_⟩) hHeld ?_
  rotate_left
  · intro w0 hSw; (try dsimp only at hSw); obtain ⟨r1, r2⟩ := hSw; obtain ⟨a0, a1, a2, a3, a4, a5, a6, a7, a8, a9, a10, a11⟩ := acR r1; obtain ⟨f0, f1, f2, f3, f4, f5, f6, f7, f8, f9, f10⟩ := zkR r2; go_simp <;> with_reducible rfl
  try simp only [Act.put, List.getElem_toArray, List.getElem_cons_zero, List.getElem_cons_succ, List.setIfInBounds_toArray, List.set_cons_zero, List.set_cons_succ]
  refine wpAnyH_take (i := 37) (v := ?_) rfl (by kernel_rfl) (by kernel_rfl) (by kernel_rfl) (fun c a w h => hQ0 c a _ _ w h) (Or.inl ⟨by rfl, ?_⟩) hHeld ?_
  rotate_left
  · intro w0 hSw; (try dsimp only at hSw); obtain ⟨r1, r2⟩ := hSw; obtain ⟨a0, a1, a2, a3, a4, a5, a6, a7, a8, a9, a10, a11⟩ := acR r1; obtain ⟨f0, f1, f2, f3, f4, f5, f6, f7, f8, f9, f10⟩ := zkR r2; go_simp <;> with_reducible rfl
  try simp only [Act.put, List.getElem_toArray, List.getElem_cons_zero, List.getElem_cons_succ, List.setIfInBounds_toArray, List.set_cons_zero, List.set_cons_succ]
  refine wpAnyH_take (i := 38) (v := ?_) rfl (by kernel_rfl) (by kernel_rfl) (by kernel_rfl) (fun c a w h => hQ0 c a _ _ w h) (Or.inl ⟨by rfl, ?_⟩) hHeld ?_
  rotate_left
  · intro w0 hSw; (try dsimp only at hSw); obtain ⟨r1, r2⟩ := hSw; obtain ⟨a0, a1, a2, a3, a4, a5, a6, a7, a8, a9, a10, a11⟩ := acR r1; obtain ⟨f0, f1, f2, f3, f4, f5, f6, f7, f8, f9, f10⟩ := zkR r2; go_simp <;> with_reducible rfl
  try simp only [Act.put, List.getElem_toArray, List.getElem_cons_zero, List.getElem_cons_succ, List.setIfInBounds_toArray, List.set_cons_zero, List.set_cons_succ]
  refine wpAnyH_take (i := 39) (v := ?_) rfl (by kernel_rfl) (by kernel_rfl) (by kernel_rfl) (fun c a w h => hQ0 c a _ _ w h) (Or.inl ⟨by rfl, ?_⟩) hHeld ?_
  rotate_left
  · intro w0 hSw; (try dsimp only at hSw); obtain ⟨r1, r2⟩ := hSw; obtain ⟨a0, a1, a2, a3, a4, a5, a6, a7, a8, a9, a10, a11⟩ := acR r1; obtain ⟨f0, f1, f2, f3, f4, f5, f6, f7, f8, f9, f10⟩ := zkR r2; go_simp <;> with_reducible rfl
  try simp only [Act.put, List.getElem_toArray, List.getElem_cons_zero, List.getElem_cons_succ, List.setIfInBounds_toArray, List.set_cons_zero, List.set_cons_succ]
  refine wpAnyH_take (i := 40) (v := ?_) rfl (by kernel_rfl) (by kernel_rfl) (by kernel_rfl) (fun c a w h => hQ0 c a _ _ w h) (Or.inl ⟨by rfl, ?_⟩) hHeld ?_
  rotate_left
  · intro w0 hSw; (try dsimp only at hSw); obtain ⟨r1, r2⟩ := hSw; obtain ⟨a0, a1, a2, a3, a4, a5, a6, a7, a8, a9, a10, a11⟩ := acR r1; obtain ⟨f0, f1, f2, f3, f4, f5, f6, f7, f8, f9, f10⟩ := zkR r2; go_simp <;> with_reducible rfl
  try simp only [Act.put, List.getElem_toArray, List.getElem_cons_zero, List.getElem_cons_succ, List.setIfInBounds_toArray, List.set_cons_zero, List.set_cons_succ]
  refine wpAnyH_take (i := 41) (v := ?_) rfl (by kernel_rfl) (by kernel_rfl) (by kernel_rfl) (fun c a w h => hQ0 c a _ _ w h) (Or.inl ⟨by rfl, ?_⟩) hHeld ?_
  rotate_left
  · intro w0 hSw; (try dsimp only at hSw); obtain ⟨r1, r2⟩ := hSw; obtain ⟨a0, a1, a2, a3, a4, a5, a6, a7, a8, a9, a10, a11⟩ := acR r1; obtain ⟨f0, f1, f2, f3, f4, f5, f6, f7, f8, f9, f10⟩ := zkR r2; go_simp <;> with_reducible rfl
  try simp only [Act.put, List.getElem_toArray, List.getElem_cons_zero, List.getElem_cons_succ, List.setIfInBounds_toArray, List.set_cons_zero, List.set_cons_succ]
  refine wpAnyH_take (i := 42) (v := ?_) rfl (by kernel_rfl) (by kernel_rfl) (by kernel_rfl) (fun c a w h => hQ0 c a _ _ w h) (Or.inl ⟨by rfl, ?_⟩) hHeld ?_
  rotate_left
  · intro w0 hSw; (try dsimp only at hSw); obtain ⟨r1, r2⟩ := hSw; obtain ⟨a0, a1, a2, a3, a4, a5, a6, a7, a8, a9, a10, a11⟩ := acR r1; obtain ⟨f0, f1, f2, f3, f4, f5, f6, f7, f8, f9, f10⟩ := zkR r2; go_simp <;> with_reducible rfl
  try simp only [Act.put, List.getElem_toArray, List.getElem_cons_zero, List.getElem_cons_succ, List.setIfInBounds_toArray, List.set_cons_zero, List.set_cons_succ]
  refine wpAnyH_take (i := 43) (v := ?_) rfl (by kernel_rfl) (by kernel_rfl) (by kernel_rfl) (fun c a w h => hQ0 c a _ _ w h) (Or.inl ⟨by rfl, ?_⟩) hHeld ?_
  rotate_left
  · intro w0 hSw; (try dsimp only at hSw); obtain ⟨r1, r2⟩ := hSw; obtain ⟨a0, a1, a2, a3, a4, a5, a6, a7, a8, a9, a10, a11⟩ := acR r1; obtain ⟨f0, f1, f2, f3, f4, f5, f6, f7, f8, f9, f10⟩ := zkR r2; go_simp <;> with_reducible rfl
  try simp only [Act.put, List.getElem_toArray, List.getElem_cons_zero, List.getElem_cons_succ, List.setIfInBounds_toArray, List.set_cons_zero, List.set_cons_succ]
  refine wpAnyH_take (i := 44) (v := ?_) rfl (by kernel_rfl) (by kernel_rfl) (by kernel_rfl) (fun c a w h => hQ0 c a _ _ w h) (Or.inl ⟨by rfl, ?_⟩) hHeld ?_
  rotate_left
  · intro w0 hSw; (try dsimp only at hSw); obtain ⟨r1, r2⟩ := hSw; obtain ⟨a0, a1, a2, a3, a4, a5, a6, a7, a8, a9, a10, a11⟩ := acR r1; obtain ⟨f0, f1, f2, f3, f4, f5, f6, f7, f8, f9, f10⟩ := zkR r2; go_simp <;> with_reducible rfl
  try simp only [Act.put, List.getElem_toArray, List.getElem_cons_zero, List.getElem_cons_succ, List.setIfInBounds_toArray, List.set_cons_zero, List.set_cons_succ]
  refine wpAnyH_take (i := 45) (v := ?_) rfl (by kernel_rfl) (by kernel_rfl) (by kernel_rfl) (fun c a w h => hQ0 c a _ _ w h) (Or.inl ⟨by rfl, ?_⟩) hHeld ?_
  rotate_left
  · intro w0 hSw; (try dsimp only at hSw); obtain ⟨r1, r2⟩ := hSw; obtain ⟨a0, a1, a2, a3, a4, a5, a6, a7, a8, a9, a10, a11⟩ := acR r1; obtain ⟨f0, f1, f2, f3, f4, f5, f6, f7, f8, f9, f10⟩ := zkR r2; go_simp <;> with_reducible rfl
  try simp only [Act.put, List.getElem_toArray, List.getElem_cons_zero, List.getElem_cons_succ, List.setIfInBounds_toArray, List.set_cons_zero, List.set_cons_succ]
  refine wpAnyH_take (i := 46) (v := ?_) rfl (by kernel_rfl) (by kernel_rfl) (by kernel_rfl) (fun c a w h => hQ0 c a _ _ w h) (Or.inl ⟨by rfl, ?_⟩) hHeld ?_
  rotate_left
  · intro w0 hSw; (try dsimp only at hSw); obtain ⟨r1, r2⟩ := hSw; obtain ⟨a0, a1, a2, a3, a4, a5, a6, a7, a8, a9, a10, a11⟩ := acR r1; obtain ⟨f0, f1, f2, f3, f4, f5, f6, f7, f8, f9, f10⟩ := zkR r2; go_simp <;> with_reducible rfl
  try simp only [Act.put, List.getElem_toArray, List.getElem_cons_zero, List.getElem_cons_succ, List.setIfInBounds_toArray, List.set_cons_zero, List.set_cons_succ]
  refine wpAnyH_take (i := 47) (v := ?_) rfl (by kernel_rfl) (by kernel_rfl) (by kernel_rfl) (fun c a w h => hQ0 c a _ _ w h) (Or.inl ⟨by rfl, ?_⟩) hHeld ?_
  rotate_left
  · intro w0 hSw; (try dsimp only at hSw); obtain ⟨r1, r2⟩ := hSw; obtain ⟨a0, a1, a2, a3, a4, a5, a6, a7, a8, a9, a10, a11⟩ := acR r1; obtain ⟨f0, f1, f2, f3, f4, f5, f6, f7, f8, f9, f10⟩ := zkR r2; go_simp <;> with_reducible rfl
  try simp only [Act.put, List.getElem_toArray, List.getElem_cons_zero, List.getElem_cons_succ, List.setIfInBounds_toArray, List.set_cons_zero, List.set_cons_succ]
  refine wpAnyH_take (i := 48) (v := ?_) rfl (by kernel_rfl) (by kernel_rfl) (by kernel_rfl) (fun c a w h => hQ0 c a _ _ w h) (Or.inl ⟨by rfl, ?_⟩) hHeld ?_
  rotate_left
  · intro w0 hSw; (try dsimp only at hSw); obtain ⟨r1, r2⟩ := hSw; obtain ⟨a0, a1, a2, a3, a4, a5, a6, a7, a8, a9, a10, a11⟩ := acR r1; obtain ⟨f0, f1, f2, f3, f4, f5, f6, f7, f8, f9, f10⟩ := zkR r2; go_simp <;> with_reducible rfl
  try simp only [Act.put, List.getElem_toArray, List.getElem_cons_zero, List.getElem_cons_succ, List.setIfInBounds_toArray, List.set_cons_zero, List.set_cons_succ]
  refine wpAnyH_take (i := 49) (v := ?_) rfl (by kernel_rfl) (by kernel_rfl) (by kernel_rfl) (fun c a w h => hQ0 c a _ _ w h) (Or.inl ⟨by rfl, ?_⟩) hHeld ?_
  rotate_left
  · intro w0 hSw; (try dsimp only at hSw); obtain ⟨r1, r2⟩ := hSw; obtain ⟨a0, a1, a2, a3, a4, a5, a6, a7, a8, a9, a10, a11⟩ := acR r1; obtain ⟨f0, f1, f2, f3, f4, f5, f6, f7, f8, f9, f10⟩ := zkR r2; go_simp <;> with_reducible rfl
  try simp only [Act.put, List.getElem_toArray, List.getElem_cons_zero, List.getElem_cons_succ, List.setIfInBounds_toArray, List.set_cons_zero, List.set_cons_succ]
  refine wpAnyH_take (i := 50) (v := ?_) rfl (by kernel_rfl) (by kernel_rfl) (by kernel_rfl) (fun c a w h => hQ0 c a _ _ w h) (Or.inl ⟨by rfl, ?_⟩) hHeld ?_
  rotate_left
  · intro w0 hSw; (try dsimp only at hSw); obtain ⟨r1, r2⟩ := hSw; obtain ⟨a0, a1, a2, a3, a4, a5, a6, a7, a8, a9, a10, a11⟩ := acR r1; obtain ⟨f0, f1, f2, f3, f4, f5, f6, f7, f8, f9, f10⟩ := zkR r2; go_simp <;> with_reducible rfl
  try simp only [Act.put, List.getElem_toArray, List.getElem_cons_zero, List.getElem_cons_succ, List.setIfInBounds_toArray, List.set_cons_zero, List.set_cons_succ]
  refine wpAnyH_take (i := 51) (v := ?_) rfl (by kernel_rfl) (by kernel_rfl) (by kernel_rfl) (fun c a w h => hQ0 c a _ _ w h) (Or.inl ⟨by rfl, ?_⟩) hHeld ?_
  rotate_left
  · intro w0 hSw; (try dsimp only at hSw); obtain ⟨r1, r2⟩ := hSw; obtain ⟨a0, a1, a2, a3, a4, a5, a6, a7, a8, a9, a10, a11⟩ := acR r1; obtain ⟨f0, f1, f2, f3, f4, f5, f6, f7, f8, f9, f10⟩ := zkR r2; go_simp <;> with_reducible rfl
  try simp only [Act.put, List.getElem_toArray, List.getElem_cons_zero, List.getElem_cons_succ, List.setIfInBounds_toArray, List.set_cons_zero, List.set_cons_succ]
  refine wpAnyH_take (i := 52) (v := ?_) rfl (by kernel_rfl) (by kernel_rfl) (by kernel_rfl) (fun c a w h => hQ0 c a _ _ w h) (Or.inl ⟨by rfl, ?_⟩) hHeld ?_
  rotate_left
  · intro w0 hSw; (try dsimp only at hSw); obtain ⟨r1, r2⟩ := hSw; obtain ⟨a0, a1, a2, a3, a4, a5, a6, a7, a8, a9, a10, a11⟩ := acR r1; obtain ⟨f0, f1, f2, f3, f4, f5, f6, f7, f8, f9, f10⟩ := zkR r2; go_simp <;> with_reducible rfl
  try simp only [Act.put, List.getElem_toArray, List.getElem_cons_zero, List.getElem_cons_succ, List.setIfInBounds_toArray, List.set_cons_zero, List.set_cons_succ]
  refine wpAnyH_take (i := 53) (v := ?_) rfl (by kernel_rfl) (by kernel_rfl) (by kernel_rfl) (fun c a w h => hQ0 c a _ _ w h) (Or.inl ⟨by rfl, ?_⟩) hHeld ?_
  rotate_left
  · intro w0 hSw; (try dsimp only at hSw); obtain ⟨r1, r2⟩ := hSw; obtain ⟨a0, a1, a2, a3, a4, a5, a6, a7, a8, a9, a10, a11⟩ := acR r1; obtain ⟨f0, f1, f2, f3, f4, f5, f6, f7, f8, f9, f10⟩ := zkR r2; go_simp <;> with_reducible rfl
  try simp only [Act.put, List.getElem_toArray, List.getElem_cons_zero, List.getElem_cons_succ, List.setIfInBounds_toArray, List.set_cons_zero, List.set_cons_succ]
  refine wpAnyH_take (i := 54) (v := ?_) rfl (by kernel_rfl) (by kernel_rfl) (by kernel_rfl) (fun c a w h => hQ0 c a _ _ w h) (Or.inl ⟨by rfl, ?_⟩) hHeld ?_
  rotate_left
  · intro w0 hSw; (try dsimp only at hSw); obtain ⟨r1, r2⟩ := hSw; obtain ⟨a0, a1, a2, a3, a4, a5, a6, a7, a8, a9, a10, a11⟩ := acR r1; obtain ⟨f0, f1, f2, f3, f4, f5, f6, f7, f8, f9, f10⟩ := zkR r2; go_simp <;> with_reducible rfl
  try simp only [Act.put, List.getElem_toArray, List.getElem_cons_zero, List.getElem_cons_succ, List.setIfInBounds_toArray, List.set_cons_zero, List.set_cons_succ]
  refine wpAnyH_take (i := 55) (v := ?_) rfl (by kernel_rfl) (by kernel_rfl) (by kernel_rfl) (fun c a w h => hQ0 c a _ _ w h) (Or.inl ⟨by rfl, ?_⟩) hHeld ?_
  rotate_left
  · intro w0 hSw; (try dsimp only at hSw); obtain ⟨r1, r2⟩ := hSw; obtain ⟨a0, a1, a2, a3, a4, a5, a6, a7, a8, a9, a10, a11⟩ := acR r1; obtain ⟨f0, f1, f2, f3, f4, f5, f6, f7, f8, f9, f10⟩ := zkR r2; go_simp <;> with_reducible rfl
  try simp only [Act.put, List.getElem_toArray, List.getElem_cons_zero, List.getElem_cons_succ, List.setIfInBounds_toArray, List.set_cons_zero, List.set_cons_succ]
  refine wpAnyH_take (i := 56) (v := ?_) rfl (by kernel_rfl) (by kernel_rfl) (by kernel_rfl) (fun c a w h => hQ0 c a _ _ w h) (Or.inl ⟨by rfl, ?_⟩) hHeld ?_
  rotate_left
  · intro w0 hSw; (try dsimp only at hSw); obtain ⟨r1, r2⟩ := hSw; obtain ⟨a0, a1, a2, a3, a4, a5, a6, a7, a8, a9, a10, a11⟩ := acR r1; obtain ⟨f0, f1, f2, f3, f4, f5, f6, f7, f8, f9, f10⟩ := zkR r2; go_simp <;> with_reducible rfl
  try simp only [Act.put, List.getElem_toArray, List.getElem_cons_zero, List.getElem_cons_succ, List.setIfInBounds_toArray, List.set_cons_zero, List.set_cons_succ]
  refine wpAnyH_ready (rs := [57]) (by kernel_rfl) (by simp) ?_
  refine AllReadyH.cons rfl (fun K0 hK0 => ?_) AllReadyH.nil
  rw [if_pos (by first | (simp [Region.wanted]; done) | rfl)]
  go_simp
  refine (Rm.feq_self q.val _).mono ?_
  rintro e' _ ⟨rfl, rfl⟩
  refine hK0.out _ _ ⟨range_below HG3.out bx1', range_below HR3.out bx1'⟩ (fun hHeld => ?_)
  clear hK0 K0
  try simp only [Act.put, List.getElem_toArray, List.getElem_cons_zero, List.getElem_cons_succ, List.setIfInBounds_toArray, List.set_cons_zero, List.set_cons_succ]
  refine wpAnyH_take (i := 58) (v := ?_) rfl (by kernel_rfl) (by kernel_rfl) (by kernel_rfl) (fun c a w h => hQ0 c a _ _ w h) (Or.inl ⟨by rfl, ?_⟩) hHeld ?_
  rotate_left
  · intro w0 hSw; (try dsimp only at hSw); obtain ⟨r1, r2⟩ := hSw; obtain ⟨a0, a1, a2, a3, a4, a5, a6, a7, a8, a9, a10, a11⟩ := acR r1; obtain ⟨f0, f1, f2, f3, f4, f5, f6, f7, f8, f9, f10⟩ := zkR r2; go_simp <;> with_reducible rfl
  try simp only [Act.put, List.getElem_toArray, List.getElem_cons_zero, List.getElem_cons_succ, List.setIfInBounds_toArray, List.set_cons_zero, List.set_cons_succ]
  refine wpAnyH_take (i := 59) (v := ?_) rfl (by kernel_rfl) (by kernel_rfl) (by kernel_rfl) (fun c a w h => hQ0 c a _ _ w h) (Or.inl ⟨by rfl, ?_⟩) hHeld ?_
  rotate_left
  · intro w0 hSw; (try dsimp only at hSw); obtain ⟨r1, r2⟩ := hSw; obtain ⟨a0, a1, a2, a3, a4, a5, a6, a7, a8, a9, a10, a11⟩ := acR r1; obtain ⟨f0, f1, f2, f3, f4, f5, f6, f7, f8, f9, f10⟩ := zkR r2; go_simp <;> with_reducible rfl
  try simp only [Act.put, List.getElem_toArray, List.getElem_cons_zero, List.getElem_cons_succ, List.setIfInBounds_toArray, List.set_cons_zero, List.set_cons_succ]
  refine wpAnyH_done (by kernel_rfl) ?_ _
  go_wp2_with fail
  have hfin := Below.step HB3.out bx1'
  first | exact hfin | exact HEND.out _ _ _ _ _ _ _ _ _ _ _ _ _ _ _ _ _ _ _ _ _ _ _ _ _ _ _ _ _ _ _ _ _ _ _ _ _ _ _ _ _ _ _ _ _ _ _ _ _ _ _ _ _ _ _ _ _ _ _ _ _ _ _ _ _ _ _ _ _ _ _ _ _ _ _ _ _ _ _ _ _ _ _ _ _ _ _ _ _ _ _ _ _ _ _ _ _ _ _ _ _ _ _ _ _ _ _ _ _ _ _ _ _ hfin
end
end Go.Proofs.Qxb6605676a.Kz
