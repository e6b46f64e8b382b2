import Derived.Test.Qxb6605676aKz42
import Derived.Deep.RegionHeld3
import Derived.OwnWalk
namespace Go.Proofs.Qxb6605676a.Kz
set_option linter.unusedVariables false
set_option linter.unusedSimpArgs false
open Go.RowKit Go.Proofs.Qxb6605676a.Mp Go.Proofs.Qxb6605676a.Tm Go.Proofs.Qxb6605676a.En
open Go.ChangeMaps (setBlock heap_setBlock_same)

theorem info71' : ∃ i z, Try.prog.info? 71 = some i ∧ i.zero = some z ∧ i.size = 12 ∧ i.bytes = 136 ∧ z.cells.size = 12 := by
  have h : (Try.prog.info? 71).any (fun i => i.size == 12 && i.bytes == 136 && i.zero.any (fun z => z.cells.size == 12)) = true := by kernel_rfl
  cases hj : Try.prog.info? 71 with
  | none => rw [hj] at h; cases h
  | some i =>
    rw [hj] at h
    cases hz : i.zero with
    | none => simp [hz] at h
    | some z =>
      simp [hz] at h
      exact ⟨i, z, rfl, hz, h.1.1, h.1.2, h.2⟩

theorem flatMap_at3 {α : Type} {f : α → List Value} {n : Nat} (hf : ∀ x, (f x).length = n) : ∀ (L : List α) (j : Nat) (x : α), L[j]? = some x → ∀ c v, (f x)[c]? = some v → (L.flatMap f)[j * n + c]? = some v
  | [], j, x, h, _, _, _ => by simp at h
  | y :: L, 0, x, h, c, v, hv => by
    simp at h
    subst h
    have hc : c < (f y).length := (List.getElem?_eq_some_iff.1 hv).1
    rw [List.flatMap_cons, Nat.zero_mul, Nat.zero_add, List.getElem?_append_left hc]
    exact hv
  | y :: L, j + 1, x, h, c, v, hv => by
    simp at h
    rw [List.flatMap_cons, List.getElem?_append_right (by rw [hf, Nat.succ_mul]; omega), hf, Nat.succ_mul]
    have := flatMap_at3 hf L j x h c v hv
    rw [show j * n + n + c - n = j * n + c by omega]
    exact this

theorem own_rows3 {α : Type} {f : α → List Value} {n base : Nat} {e : TypeId} {v : Value} {w : World} (hf : ∀ x, (f x).length = n) (L : List α) (h : w.ownsRow base e n v L.length (L.flatMap f)) (hne : v ≠ .slice none 0 0) :
    ∃ g cap, v = .slice (some ⟨g, 0, none⟩) L.length cap ∧ base ≤ g ∧ g < w.heap.size ∧ RowsAt w g n f L ∧ ∀ j, j < L.length * n → w.frozen? ⟨g, j, none⟩ = false := by
  rcases h.2 with ⟨rfl, h0⟩ | ⟨g, cap, cur, rfl, hbg, hg, hc1, hc2, hcs, ht⟩
  · exact absurd rfl hne
  · obtain ⟨hT, hlt⟩ := there_own h
    refine ⟨g, cap, rfl, hbg, hlt, ?_, fun j hj => ?_⟩
    · intro j x hx c u hu
      have h1 := flatMap_at3 hf L j x hx c u hu
      rw [← ht] at h1
      have hlt2 : j * n + c < L.length * n := by
        have := (List.getElem?_eq_some_iff.1 h1).1
        simp at this
        omega
      rw [List.getElem?_take_of_lt hlt2] at h1
      unfold World.cell?
      rw [hg]
      simpa using h1
    · have hm : L.length * n ≤ cap * n := Nat.mul_le_mul_right n hc1
      have := (hT j (by omega)).2
      simpa using this

theorem ac_new (W : World) (a : AcR) : ∀ j u, (acCells a)[j]? = some u → (W.alloc (.cells (acCells a).toArray 71)).cell? ((⟨W.heap.size, 0, none⟩ : Addr).add j) = some u := by
  intro j u hu
  have e : (⟨W.heap.size, 0, none⟩ : Addr).add j = ⟨W.heap.size, j, none⟩ := by simp [Addr.add]; intro h; exact h.symm
  rw [e]
  unfold World.cell?
  rw [heap_alloc_new]
  simpa using hu

theorem setBlock_same {W : World} {b : Nat} {o : Obj} (h : W.heap[b]? = some o) (o' : Obj) : (setBlock W b o').heap[b]? = some o' := by
  show (W.heap.setIfInBounds b _)[b]? = _
  rw [Array.getElem?_setIfInBounds_self_of_lt (Array.getElem?_eq_some_iff.1 h).1]
/-- A row of cells is no iterator. -/
theorem iter_kept {W W2 : World} {base e size it : Nat} {v : Value} {n : Nat} {xs : List Value} {m : Option Nat} {s c : Nat} {seen : Array Nat} (h : W.ownsRow base e size v n xs) (hit : W.heap[it]? = some (.mapIter m s seen c)) (hg : W.grownBy W2 (some it)) : W2.ownsRow base e size v n xs := by
  refine h.kept hg ?_
  rcases h.2 with ⟨rfl, _⟩ | ⟨g, cap, cur, rfl, _, hgb, _⟩
  · exact .inl rfl
  · right
    simp only [Value.ownBlock]
    intro e
    have e' : g = it := Option.some.inj e
    subst e'
    rw [hgb] at hit
    cases hit

/-- What the statement that appends a record reads. -/
structure S11 (rb ab i : Nat) (q : ZK) (nm : ByteArray) (W : World) : Prop where
  d0 : W.cell? ⟨rb, i * 6, none⟩ = some (.string nm)
  al : W.rangeAt ab 0 (alCells q).toList
theorem alR {W : World} {b : Nat} {q : ZK} (h : W.rangeAt b 0 (alCells q).toList) : W.cell? ⟨b, 0, none⟩ = some (.string q.state) ∧ W.cell? ⟨b, 1, none⟩ = some (.int .u64 (q.since % 1000000000)) ∧ W.cell? ⟨b, 2, none⟩ = some (.int .i64 (q.since / 1000000000)) ∧ W.cell? ⟨b, 3, none⟩ = some (.pointer none) ∧ W.cell? ⟨b, 4, none⟩ = some (.int .u64 (q.lts % 1000000000)) ∧ W.cell? ⟨b, 5, none⟩ = some (.int .i64 (q.lts / 1000000000)) ∧ W.cell? ⟨b, 6, none⟩ = some (.pointer none) ∧ W.cell? ⟨b, 7, none⟩ = some (.string q.sensor) ∧ W.cell? ⟨b, 8, none⟩ = some (.string q.metric) ∧ W.cell? ⟨b, 9, none⟩ = some (.float .f64 q.val) :=
  ⟨h 0 _ rfl, h 1 _ rfl, h 2 _ rfl, h 3 _ rfl, h 4 _ rfl, h 5 _ rfl, h 6 _ rfl, h 7 _ rfl, h 8 _ rfl, h 9 _ rfl⟩
theorem S11.below {rb ab i : Nat} {q : ZK} {nm : ByteArray} {W W' : World} (h : S11 rb ab i q nm W) (hb : Below W.heap.size W W') : S11 rb ab i q nm W' :=
  ⟨by rw [hb.cell (World.block_lt_of_cell? W _ h.d0)]; exact h.d0, range_below h.al hb⟩

section
variable {mb rb : Nat} {rs : Array Value} {R : List RuleD} {K : List ZK} {ptrs : List Nat} {C KB : List (Key × Value)} {LS SB : List ((ByteArray × ByteArray) × Value)} {w : World}

theorem rngLeft_at {W W' : World} {mb it : Nat} {es : Array MapEntry} {clock c s : Nat} {m : Option Nat} {seen : Array Nat} (h1 : W'.heap[mb]? = W.heap[mb]?) (h2 : W.heap[mb]? = some (.map es clock)) (h3 : W'.heap[it]? = some (.mapIter m s seen c)) : rngLeft mb it W' = (leftOf es seen).size := by
  unfold rngLeft
  rw [h1, h2, h3]

set_option maxHeartbeats 8000000 in
set_option maxRecDepth 100000 in
theorem active_any (h : AcE mb rb rs R K ptrs C KB LS SB w) (hpl : ptrs.length = K.length) (hkl : K.length ≤ 4096) (hRl : R.length ≤ 1000) (hRs : ∀ r ∈ R, r.sevs.length ≤ 1000)
    (POST : List AcR → List AcR → Prop) (hsort : Hid (∀ (D : List AcR) (g cap : Nat) (W : World), RowsAt W g 12 acCells D → w.heap.size ≤ g → g < W.heap.size → D.length ≤ 4096 → (∀ j, j < D.length * 12 → W.frozen? ⟨g, j, none⟩ = false) → Calls Try.prog 63 #[.slice (some ⟨g, 0, none⟩) D.length cap, .func (.func 64) #[] #[]] W fun e w' => e = .returned (.tuple #[]) ∧ ∃ D', POST D D' ∧ D'.length = D.length ∧ RowsAt w' g 12 acCells D' ∧ Below w.heap.size W w')) :
    Calls Try.prog 19 #[.pointer (some ⟨mb + 5, 0, none⟩)] w fun e w' => ∃ (g cap : Nat) (Y : List (Key × Value)) (D0 D : List AcR), e = .returned (.slice (some ⟨g, 0, none⟩) D.length cap) ∧ RowsAt w' g 12 acCells D ∧ Y.Perm (alMap R (K.zip ptrs)) ∧ RecL R K ptrs Y D0 ∧ POST D0 D ∧ D.length ≤ 4096 ∧ Below w.heap.size w w' := by
  obtain ⟨c0, c2, c3, c4, c5, c6⟩ := h.eng.cells
  have hlt := h.eng.lt
  have hmlt : mb < w.heap.size := by omega
  obtain ⟨es, clock, hes, hE1, hE2, hE3⟩ := h.eng.alarms
  have hnod : (es.toList.map (·.born)).Nodup := hE2.imp (fun hab => by omega)
  have hcnt : (alMap R (K.zip ptrs)).length ≤ 4096 := by
    rw [alMap_length R K ptrs hpl]
    have : ∀ (p : Nat → Bool) n, cntTo p n ≤ n := by
      intro p n
      induction n with
      | zero => simp [cntTo]
      | succ n ih => unfold cntTo; split <;> omega
    exact Nat.le_trans (this _ _) hkl
  have hln := h.eng.alarms.len Try.underlying114 3
  have HG : Hid (AcE mb rb rs R K ptrs C KB LS SB w) := h
  have HPM : Hid (∀ Y Z : List (Key × Value), (Y ++ Z).Perm (alMap R (K.zip ptrs)) → Y.length ≤ 4096) := fun Y Z hp => by
    have := hp.length_eq
    rw [List.length_append] at this
    omega
  obtain ⟨i71, z71, hi7, hz7, hs7, hby7, hzs7⟩ := info71'
  clear h
  generalize hA : alMap R (K.zip ptrs) = A at *
  go_enter Try.func19, Try.ntmps19
  go_wp2_with (at_make; refine wpList_make_own _ rfl _ _ 39 rfl w.heap.size 71 i71 z71 12 Try.underlying39 hi7 hz7 hs7 .i64 .i64 _ A.length rfl rfl rfl (by rw [hby7]; omega) (by unfold maxLen; omega) (Nat.le_refl _) ?_)
  intro w1 hown1 hgr1
  have hB1 : Below w.heap.size w w1 := ⟨hgr1.os, hgr1.tape, hgr1.output, hgr1.size, fun k hk => hgr1.block k hk (by simp)⟩
  have e2 : w1.cell? ⟨mb + 5, 2, none⟩ = some (.map (some mb)) := by rw [hB1.cell hlt]; exact c2
  have hrg := run_range_map (P := Try.prog) w1 114 134 82 mb es clock Try.underlying114 ((hB1.block mb hmlt).trans hes)
  have hs1 := hB1.size
  have hO1 : (w1.alloc (.mapIter (some mb) clock #[] clock)).ownsRow w.heap.size 71 12 (.slice (some ⟨w.heap.size, 0, none⟩) 0 A.length) 0 [] := hown1.alloc _
  have hI1 : (w1.alloc (.mapIter (some mb) clock #[] clock)).heap[w1.heap.size]? = some (.mapIter (some mb) clock #[] clock) := heap_alloc_new w1 _
  have HO1 : Hid ((w1.alloc (.mapIter (some mb) clock #[] clock)).ownsRow w.heap.size 71 12 (.slice (some ⟨w.heap.size, 0, none⟩) 0 A.length) 0 []) := hO1
  have HI1 : Hid ((w1.alloc (.mapIter (some mb) clock #[] clock)).heap[w1.heap.size]? = some (.mapIter (some mb) clock #[] clock)) := hI1
  have HB1 : Hid (Below w.heap.size w (w1.alloc (.mapIter (some mb) clock #[] clock))) := hB1.alloc hs1 _
  clear hown1 hgr1 hO1 hI1 hln
  go_wp2_with fail
  generalize hitv : w1.heap.size = it at *
  go_loopw [3] (fun v wr => ∃ (Y Z : List (Key × Value)) (seen : Array Nat) (D : List AcR), Ranged kv es seen A Y Z ∧ RecL R K ptrs Y D ∧ Below w.heap.size w wr ∧ wr.heap[it]? = some (.mapIter (some mb) clock seen clock) ∧ wr.ownsRow w.heap.size 71 12 v D.length (D.flatMap acCells) ∧ v ≠ .slice none 0 0) (fun _ wr => rngLeft mb it wr)
  case atStart => exact ⟨[], A, #[], [], Ranged.start hE1, .nil, HB1.out, HI1.out, HO1.out, by simp⟩
  case round =>
    obtain ⟨Y, Z, seen, D, hR, hRec, hb, hit, hown, hne⟩ := hrel
    have hes' : wr.heap[mb]? = some (.map es clock) := (hb.block mb hmlt).trans hes
    rcases run_next_at (P := Try.prog) wr 0 it mb clock clock seen es clock hit hes' hE3 (Nat.le_refl _) with ⟨h0, hnx⟩ | ⟨e, he, w2, hw2, hnx⟩
    · have hperm := hR.done h0
      obtain ⟨g, cap, rfl, hg1, hg2, hrows, hfz⟩ := own_rows3 acLen D hown hne
      have hDl : D.length ≤ 4096 := Nat.le_trans hRec.le (HPM.out Y Z hR.perm)
      have HSO : Hid _ := hsort.out D g cap wr hrows hg1 hg2 hDl hfz
      clear hrows hfz hown hsort hit hR
      go_wp2_with fail
      refine Calls.mono HSO.out ?_
      rintro e w' ⟨rfl, D', hpost, hlen, hrows', hbw⟩
      go_wp2_with fail
      go_ret
      refine ⟨g, cap, Y, D, D', ?_, hrows', hperm, hRec, hpost, by omega, hb.trans hbw⟩
      show Ending.returned (Value.slice (some ⟨g, 0, none⟩) D.length cap) = _
      rw [hlen]
    · obtain ⟨pe, Z', hpZ, hkey, hval, hR'⟩ := hR.step hE2 he
      have hpA : pe ∈ A := hR.perm.mem_iff.1 (List.mem_append_right _ hpZ)
      rw [← hA, alMap_X] at hpA
      obtain ⟨x, hx, rfl⟩ := List.mem_map.1 hpA
      obtain ⟨hxm, hk⟩ := gmap_mem Key.same (fun x : ZK × Nat => keyA R x.1) (K.zip ptrs) x hx
      obtain ⟨i, lv, r, hkk, hr, hlv, hn, hpp⟩ := key_facts hk
      obtain ⟨kx, q, ab⟩ := x
      simp only at hkk hk hxm
      subst hkk
      simp only [alP, kv] at hkey hval
      have hab : w.heap[ab]? = some (Obj.cells (alCells q) 136) := HG.out.ptr q ab hxm (by rw [hk]; rfl)
      have hr1 := hRs r (List.mem_of_getElem? hr)
      have hiR : i < R.length := (List.getElem?_eq_some_iff.1 hr).1
      have hbw2 : Below w.heap.size w w2 := by
        rcases hw2 with rfl | rfl
        · exact hb
        · exact hb.drew
      have hit2 : w2.heap[it]? = some (.mapIter (some mb) clock seen clock) := by
        rcases hw2 with rfl | rfl <;> exact hit
      have hown2 : w2.ownsRow w.heap.size 71 12 u3 D.length (D.flatMap acCells) := by
        rcases hw2 with rfl | rfl <;> exact hown
      have hg2 := setBlock_grown w2 it (.mapIter (some mb) clock (seen.push e.born) clock)
      have hitw : w.heap.size ≤ it := by omega
      obtain ⟨W1, HW1⟩ : ∃ W, Hid (W = setBlock w2 it (.mapIter (some mb) clock (seen.push e.born) clock)) := ⟨_, rfl⟩
      rw [← HW1.out] at hnx hg2
      have hB : Below w.heap.size w W1 := hbw2.grown hg2 hbw2.size (fun j hj => by have := Option.some.inj hj; omega)
      have hitW : W1.heap[it]? = some (.mapIter (some mb) clock (seen.push e.born) clock) := by rw [HW1.out]; exact setBlock_same hit2 _
      have hownW : W1.ownsRow w.heap.size 71 12 u3 D.length (D.flatMap acCells) := iter_kept hown2 hit2 hg2
      have hen := run_entry_at (P := Try.prog) W1 it mb clock seen es clock e hitW ((hB.block mb hmlt).trans hes) (mem_left he).1 hnod
      rw [hkey, hval] at hnx hen
      have HR2 : Hid (Ranged kv es (seen.push e.born) A (Y ++ [alP (⟨i, lv, q.sensor⟩, (q, ab))]) Z') := hR'
      have HBW : Hid (Below w.heap.size w W1) := hB
      have HITW : Hid (W1.heap[it]? = some (.mapIter (some mb) clock (seen.push e.born) clock)) := hitW
      have HOW : Hid (W1.ownsRow w.heap.size 71 12 u3 D.length (D.flatMap acCells)) := hownW
      have HNE : Hid (u3 ≠ .slice none 0 0) := hne
      have HSW : Hid (∀ V, Below w.heap.size w V → S11 rb ab i q r.name V) := fun V hV => S11.below ⟨(HG.out.rules i r hr).choose_spec.choose_spec.choose_spec.choose_spec.1, alCells_at hab⟩ hV
      have hDl : D.length ≤ 4096 := Nat.le_trans hRec.le (HPM.out Y Z hR.perm)
      have hitl : it < W1.heap.size := (Array.getElem?_eq_some_iff.1 hitW).1
      clear hR hpZ hkey hval hR' hpA hbw2 hit2 hown2 hg2 hB hitW hownW hown hne hw2 hes' hsort HW1 c0 c2 c3 c4 c5 c6 e2 hrg HO1 HI1 HB1
      by_cases hlv0 : lv = 0
      · subst hlv0
        have hG1 := HG.out.below HBW.out
        obtain ⟨e0, _, _, _, _, _⟩ := hG1.eng.cells
        obtain ⟨lb, f0, f1, f2, d0, d1, d2, d3, d4, d5, hLv, hlb⟩ := hG1.rules i r hr
        have hs0 : r.sevs[0]? = some r.sevs[0] := by simp
        obtain ⟨l0, _, _, _⟩ := hLv 0 _ hs0
        rw [Nat.zero_mul] at l0
        have hel := hG1.eng.lt
        have hrbl : rb < W1.heap.size := World.block_lt_of_cell? W1 _ d0
        have hlbl : lb < W1.heap.size := World.block_lt_of_cell? W1 _ l0
        have HLV : Hid (LevelsAt W1 lb r.sevs) := hLv
        have hm0 : r.sevs[0] ∈ r.sevs := List.getElem_mem hlv
        clear hG1 hLv d1 d3 d4 d5
        generalize hsv0 : r.sevs[0] = sv0 at *
        go_wp2_with fail
        go_quiet (fail)
        go_wp2_with fail
        generalize hWQ : World.drewN _ _ = WQ
        have bQ : Below W1.heap.size W1 WQ := by rw [← hWQ]; exact below_drewN ((Below.refl _ _).alloc (Nat.le_refl _) _) _
        clear hWQ
        refine Calls.mono ((HG.out.below (Below.step HBW.out bQ)).fire hpl i r hr hlv hr1 q.sensor) ?_
        rintro e' w5 ⟨he' | ⟨m, hm, he'⟩, b5⟩
        · subst he'
          have HBV : Hid (Below w.heap.size w w5) := Below.step (Below.step HBW.out bQ) b5
          have HS : Hid (S11 rb ab i q r.name w5) := HSW.out w5 HBV.out
          have bW5 : Below W1.heap.size W1 w5 := Below.step bQ b5
          have HO : Hid (w5.ownsRow w.heap.size 71 12 u3 D.length (D.flatMap acCells)) := owns_below HOW.out bW5
          have HIT : Hid (w5.heap[it]? = some (.mapIter (some mb) clock (seen.push e.born) clock)) := (bW5.block it hitl).trans HITW.out
          go_wp2_with fail
          refine wp_region_held_drew (S := S11 rb ab i q r.name) (by kernel_rfl) (HS.out.below ⟨rfl, rfl, rfl, Nat.le_refl _, fun _ _ => rfl⟩) (fun hHeld => ?_)
          refine wpAnyH_take (i := 0) (v := ?_) rfl (by kernel_rfl) (by kernel_rfl) (by kernel_rfl) (fun _ _ _ h => h) (Or.inl ⟨by rfl, ?_⟩) hHeld ?_
          rotate_left
          · intro w0 hSw; (try dsimp only at hSw); obtain ⟨d0, al⟩ := hSw; obtain ⟨a0, a1, a2, a3, a4, a5, a6, a7, a8, a9⟩ := alR al; go_simp <;> with_reducible rfl
          try simp only [Act.put, List.getElem_toArray, List.getElem_cons_zero, List.getElem_cons_succ, List.setIfInBounds_toArray, List.set_cons_zero, List.set_cons_succ]
          refine wpAnyH_take (i := 1) (v := ?_) rfl (by kernel_rfl) (by kernel_rfl) (by kernel_rfl) (fun _ _ _ h => h) (Or.inl ⟨by rfl, ?_⟩) hHeld ?_
          rotate_left
          · intro w0 hSw; (try dsimp only at hSw); obtain ⟨d0, al⟩ := hSw; obtain ⟨a0, a1, a2, a3, a4, a5, a6, a7, a8, a9⟩ := alR al; go_simp <;> with_reducible rfl
          try simp only [Act.put, List.getElem_toArray, List.getElem_cons_zero, List.getElem_cons_succ, List.setIfInBounds_toArray, List.set_cons_zero, List.set_cons_succ]
          refine wpAnyH_take (i := 2) (v := ?_) rfl (by kernel_rfl) (by kernel_rfl) (by kernel_rfl) (fun _ _ _ h => h) (Or.inl ⟨by rfl, ?_⟩) hHeld ?_
          rotate_left
          · intro w0 hSw; (try dsimp only at hSw); obtain ⟨d0, al⟩ := hSw; obtain ⟨a0, a1, a2, a3, a4, a5, a6, a7, a8, a9⟩ := alR al; go_simp <;> with_reducible rfl
          try simp only [Act.put, List.getElem_toArray, List.getElem_cons_zero, List.getElem_cons_succ, List.setIfInBounds_toArray, List.set_cons_zero, List.set_cons_succ]
          refine wpAnyH_take (i := 3) (v := ?_) rfl (by kernel_rfl) (by kernel_rfl) (by kernel_rfl) (fun _ _ _ h => h) (Or.inl ⟨by rfl, ?_⟩) hHeld ?_
          rotate_left
          · intro w0 hSw; (try dsimp only at hSw); obtain ⟨d0, al⟩ := hSw; obtain ⟨a0, a1, a2, a3, a4, a5, a6, a7, a8, a9⟩ := alR al; go_simp <;> with_reducible rfl
          try simp only [Act.put, List.getElem_toArray, List.getElem_cons_zero, List.getElem_cons_succ, List.setIfInBounds_toArray, List.set_cons_zero, List.set_cons_succ]
          refine wpAnyH_take (i := 4) (v := ?_) rfl (by kernel_rfl) (by kernel_rfl) (by kernel_rfl) (fun _ _ _ h => h) (Or.inl ⟨by rfl, ?_⟩) hHeld ?_
          rotate_left
          · intro w0 hSw; (try dsimp only at hSw); obtain ⟨d0, al⟩ := hSw; obtain ⟨a0, a1, a2, a3, a4, a5, a6, a7, a8, a9⟩ := alR al; go_simp <;> with_reducible rfl
          try simp only [Act.put, List.getElem_toArray, List.getElem_cons_zero, List.getElem_cons_succ, List.setIfInBounds_toArray, List.set_cons_zero, List.set_cons_succ]
          refine wpAnyH_take (i := 5) (v := ?_) rfl (by kernel_rfl) (by kernel_rfl) (by kernel_rfl) (fun _ _ _ h => h) (Or.inl ⟨by rfl, ?_⟩) hHeld ?_
          rotate_left
          · intro w0 hSw; (try dsimp only at hSw); obtain ⟨d0, al⟩ := hSw; obtain ⟨a0, a1, a2, a3, a4, a5, a6, a7, a8, a9⟩ := alR al; go_simp <;> with_reducible rfl
          try simp only [Act.put, List.getElem_toArray, List.getElem_cons_zero, List.getElem_cons_succ, List.setIfInBounds_toArray, List.set_cons_zero, List.set_cons_succ]
          refine wpAnyH_take (i := 6) (v := ?_) rfl (by kernel_rfl) (by kernel_rfl) (by kernel_rfl) (fun _ _ _ h => h) (Or.inl ⟨by rfl, ?_⟩) hHeld ?_
          rotate_left
          · intro w0 hSw; (try dsimp only at hSw); obtain ⟨d0, al⟩ := hSw; obtain ⟨a0, a1, a2, a3, a4, a5, a6, a7, a8, a9⟩ := alR al; go_simp <;> with_reducible rfl
          try simp only [Act.put, List.getElem_toArray, List.getElem_cons_zero, List.getElem_cons_succ, List.setIfInBounds_toArray, List.set_cons_zero, List.set_cons_succ]
          refine wpAnyH_take (i := 7) (v := ?_) rfl (by kernel_rfl) (by kernel_rfl) (by kernel_rfl) (fun _ _ _ h => h) (Or.inl ⟨by rfl, ?_⟩) hHeld ?_
          rotate_left
          · intro w0 hSw; (try dsimp only at hSw); obtain ⟨d0, al⟩ := hSw; obtain ⟨a0, a1, a2, a3, a4, a5, a6, a7, a8, a9⟩ := alR al; go_simp <;> with_reducible rfl
          try simp only [Act.put, List.getElem_toArray, List.getElem_cons_zero, List.getElem_cons_succ, List.setIfInBounds_toArray, List.set_cons_zero, List.set_cons_succ]
          refine wpAnyH_take (i := 8) (v := ?_) rfl (by kernel_rfl) (by kernel_rfl) (by kernel_rfl) (fun _ _ _ h => h) (Or.inl ⟨by rfl, ?_⟩) hHeld ?_
          rotate_left
          · intro w0 hSw; (try dsimp only at hSw); obtain ⟨d0, al⟩ := hSw; obtain ⟨a0, a1, a2, a3, a4, a5, a6, a7, a8, a9⟩ := alR al; go_simp <;> with_reducible rfl
          try simp only [Act.put, List.getElem_toArray, List.getElem_cons_zero, List.getElem_cons_succ, List.setIfInBounds_toArray, List.set_cons_zero, List.set_cons_succ]
          refine wpAnyH_take (i := 9) (v := ?_) rfl (by kernel_rfl) (by kernel_rfl) (by kernel_rfl) (fun _ _ _ h => h) (Or.inl ⟨by rfl, ?_⟩) hHeld ?_
          rotate_left
          · intro w0 hSw; (try dsimp only at hSw); obtain ⟨d0, al⟩ := hSw; obtain ⟨a0, a1, a2, a3, a4, a5, a6, a7, a8, a9⟩ := alR al; go_simp <;> with_reducible rfl
          try simp only [Act.put, List.getElem_toArray, List.getElem_cons_zero, List.getElem_cons_succ, List.setIfInBounds_toArray, List.set_cons_zero, List.set_cons_succ]
          refine wpAnyH_take (i := 10) (v := ?_) rfl (by kernel_rfl) (by kernel_rfl) (by kernel_rfl) (fun _ _ _ h => h) (Or.inl ⟨by rfl, ?_⟩) hHeld ?_
          rotate_left
          · intro w0 hSw; (try dsimp only at hSw); obtain ⟨d0, al⟩ := hSw; obtain ⟨a0, a1, a2, a3, a4, a5, a6, a7, a8, a9⟩ := alR al; go_simp <;> with_reducible rfl
          try simp only [Act.put, List.getElem_toArray, List.getElem_cons_zero, List.getElem_cons_succ, List.setIfInBounds_toArray, List.set_cons_zero, List.set_cons_succ]
          refine wpAnyH_take (i := 11) (v := ?_) rfl (by kernel_rfl) (by kernel_rfl) (by kernel_rfl) (fun _ _ _ h => h) (Or.inl ⟨by rfl, ?_⟩) hHeld ?_
          rotate_left
          · intro w0 hSw; (try dsimp only at hSw); obtain ⟨d0, al⟩ := hSw; obtain ⟨a0, a1, a2, a3, a4, a5, a6, a7, a8, a9⟩ := alR al; go_simp <;> with_reducible rfl
          try simp only [Act.put, List.getElem_toArray, List.getElem_cons_zero, List.getElem_cons_succ, List.setIfInBounds_toArray, List.set_cons_zero, List.set_cons_succ]
          refine wpAnyH_take (i := 12) (v := ?_) rfl (by kernel_rfl) (by kernel_rfl) (by kernel_rfl) (fun _ _ _ h => h) (Or.inl ⟨by rfl, ?_⟩) hHeld ?_
          rotate_left
          · intro w0 hSw; (try dsimp only at hSw); obtain ⟨d0, al⟩ := hSw; obtain ⟨a0, a1, a2, a3, a4, a5, a6, a7, a8, a9⟩ := alR al; go_simp <;> with_reducible rfl
          try simp only [Act.put, List.getElem_toArray, List.getElem_cons_zero, List.getElem_cons_succ, List.setIfInBounds_toArray, List.set_cons_zero, List.set_cons_succ]
          refine wpAnyH_take (i := 13) (v := ?_) rfl (by kernel_rfl) (by kernel_rfl) (by kernel_rfl) (fun _ _ _ h => h) (Or.inl ⟨by rfl, ?_⟩) hHeld ?_
          rotate_left
          · intro w0 hSw; (try dsimp only at hSw); obtain ⟨d0, al⟩ := hSw; obtain ⟨a0, a1, a2, a3, a4, a5, a6, a7, a8, a9⟩ := alR al; go_simp <;> with_reducible rfl
          try simp only [Act.put, List.getElem_toArray, List.getElem_cons_zero, List.getElem_cons_succ, List.setIfInBounds_toArray, List.set_cons_zero, List.set_cons_succ]
          refine wpAnyH_take (i := 14) (v := ?_) rfl (by kernel_rfl) (by kernel_rfl) (by kernel_rfl) (fun _ _ _ h => h) (Or.inl ⟨by rfl, ?_⟩) hHeld ?_
          rotate_left
          · intro w0 hSw; (try dsimp only at hSw); obtain ⟨d0, al⟩ := hSw; obtain ⟨a0, a1, a2, a3, a4, a5, a6, a7, a8, a9⟩ := alR al; go_simp <;> with_reducible rfl
          try simp only [Act.put, List.getElem_toArray, List.getElem_cons_zero, List.getElem_cons_succ, List.setIfInBounds_toArray, List.set_cons_zero, List.set_cons_succ]
          refine wpAnyH_take (i := 15) (v := ?_) rfl (by kernel_rfl) (by kernel_rfl) (by kernel_rfl) (fun _ _ _ h => h) (Or.inl ⟨by rfl, ?_⟩) hHeld ?_
          rotate_left
          · intro w0 hSw; (try dsimp only at hSw); obtain ⟨d0, al⟩ := hSw; obtain ⟨a0, a1, a2, a3, a4, a5, a6, a7, a8, a9⟩ := alR al; go_simp <;> with_reducible rfl
          try simp only [Act.put, List.getElem_toArray, List.getElem_cons_zero, List.getElem_cons_succ, List.setIfInBounds_toArray, List.set_cons_zero, List.set_cons_succ]
          refine wpAnyH_take (i := 16) (v := ?_) rfl (by kernel_rfl) (by kernel_rfl) (by kernel_rfl) (fun _ _ _ h => h) (Or.inl ⟨by rfl, ?_⟩) hHeld ?_
          rotate_left
          · intro w0 hSw; (try dsimp only at hSw); obtain ⟨d0, al⟩ := hSw; obtain ⟨a0, a1, a2, a3, a4, a5, a6, a7, a8, a9⟩ := alR al; go_simp <;> with_reducible rfl
          try simp only [Act.put, List.getElem_toArray, List.getElem_cons_zero, List.getElem_cons_succ, List.setIfInBounds_toArray, List.set_cons_zero, List.set_cons_succ]
          refine wpAnyH_take (i := 17) (v := ?_) rfl (by kernel_rfl) (by kernel_rfl) (by kernel_rfl) (fun _ _ _ h => h) (Or.inl ⟨by rfl, ?_⟩) hHeld ?_
          rotate_left
          · intro w0 hSw; (try dsimp only at hSw); obtain ⟨d0, al⟩ := hSw; obtain ⟨a0, a1, a2, a3, a4, a5, a6, a7, a8, a9⟩ := alR al; go_simp <;> with_reducible rfl
          try simp only [Act.put, List.getElem_toArray, List.getElem_cons_zero, List.getElem_cons_succ, List.setIfInBounds_toArray, List.set_cons_zero, List.set_cons_succ]
          refine wpAnyH_take (i := 18) (v := ?_) rfl (by kernel_rfl) (by kernel_rfl) (by kernel_rfl) (fun _ _ _ h => h) (Or.inl ⟨by rfl, ?_⟩) hHeld ?_
          rotate_left
          · intro w0 hSw; (try dsimp only at hSw); obtain ⟨d0, al⟩ := hSw; obtain ⟨a0, a1, a2, a3, a4, a5, a6, a7, a8, a9⟩ := alR al; go_simp <;> with_reducible rfl
          try simp only [Act.put, List.getElem_toArray, List.getElem_cons_zero, List.getElem_cons_succ, List.setIfInBounds_toArray, List.set_cons_zero, List.set_cons_succ]
          refine wpAnyH_ready (rs := [19]) (by kernel_rfl) (by simp) ?_
          refine AllReadyH.cons rfl (fun K0 hK0 => ?_) AllReadyH.nil
          rw [if_pos (by simp [Region.wanted])]
          go_simp
          obtain ⟨V2, HV2⟩ : ∃ W, Hid (W = (w5.alloc (.cells (acCells (⟨r.name, sv0, q.state, q.since, q.lts, q.sensor, q.metric, q.val⟩ : AcR)).toArray 71)).drew) := ⟨_, rfl⟩
          rw [show (w5.alloc (.cells #[.string r.name, .string sv0, .string q.state, .int .u64 (q.since % 1000000000), .int .i64 (q.since / 1000000000), .pointer none, .int .u64 (q.lts % 1000000000), .int .i64 (q.lts / 1000000000), .pointer none, .string q.sensor, .string q.metric, .float .f64 q.val] 71)).drew = V2 from HV2.out.symm]
          have bV2 : Below w5.heap.size w5 V2 := by rw [HV2.out]; exact ((Below.refl _ _).alloc (Nat.le_refl _) _).drew
          have hO2 : V2.ownsRow w.heap.size 71 12 u3 D.length (D.flatMap acCells) := owns_below HO.out bV2
          have hN2 : ∀ j u, (acCells (⟨r.name, sv0, q.state, q.since, q.lts, q.sensor, q.metric, q.val⟩ : AcR))[j]? = some u → V2.cell? ((⟨w5.heap.size, 0, none⟩ : Addr).add j) = some u := by rw [HV2.out]; exact ac_new w5 (⟨r.name, sv0, q.state, q.since, q.lts, q.sensor, q.metric, q.val⟩ : AcR)
          have hit2 : V2.heap[it]? = some (.mapIter (some mb) clock (seen.push e.born) clock) := (bV2.block it (Array.getElem?_eq_some_iff.1 HIT.out).1).trans HIT.out
          have hS2 := HS.out.below bV2
          refine hK0.out _ _ hS2 (fun hHeld => ?_)
          clear hK0 K0
          try simp only [Act.put, List.getElem_toArray, List.getElem_cons_zero, List.getElem_cons_succ, List.setIfInBounds_toArray, List.set_cons_zero, List.set_cons_succ]
          refine wpAnyH_ready (rs := [20]) (by kernel_rfl) (by simp) ?_
          refine AllReadyH.cons rfl (fun K0 hK0 => ?_) AllReadyH.nil
          rw [if_pos (by simp [Region.wanted])]
          refine wp_append_own _ _ _ 39 (by rfl) w.heap.size 71 i71 z71 12 136 Try.underlying39 hi7 hz7 hs7 hby7 hzs7 (by decide) _ _ _ (by rfl) hO2 ⟨w5.heap.size, 0, none⟩ 1 1 (acCells (⟨r.name, sv0, q.state, q.since, q.lts, q.sensor, q.metric, q.val⟩ : AcR)) (by rfl) rfl hN2 (acOne _) (by unfold maxLen; omega) (by omega) (by have := HBV.out.size; have := bV2.size; omega) ?_
          intro v3 V3 hO3 hg3 hnn
          have bw3 : Below w.heap.size w V3 := (Below.step HBV.out bV2).grown hg3 (by have := HBV.out.size; have := bV2.size; omega) (fun j hj => (hO2.lt j hj).1)
          have hit3 : V3.heap[it]? = some (.mapIter (some mb) clock (seen.push e.born) clock) := by
            rw [hg3.block it (Array.getElem?_eq_some_iff.1 hit2).1 ?_]
            · exact hit2
            · intro ee
              rcases hO2.2 with ⟨rfl, _⟩ | ⟨g0, cap0, cur0, rfl, _, hgb, _⟩
              · simp [Value.ownBlock] at ee
              · simp only [Value.ownBlock] at ee
                have e' : it = g0 := Option.some.inj ee
                subst e'
                rw [hgb] at hit2
                cases hit2
          have hS3 : S11 rb ab i q r.name V3 := HSW.out V3 bw3
          refine hK0.out _ _ hS3 (fun hHeld => ?_)
          clear hK0 K0
          try simp only [Act.put, List.getElem_toArray, List.getElem_cons_zero, List.getElem_cons_succ, List.setIfInBounds_toArray, List.set_cons_zero, List.set_cons_succ]
          refine wpAnyH_take (i := 21) (v := ?_) rfl (by kernel_rfl) (by kernel_rfl) (by kernel_rfl) (fun _ _ _ h => h) (Or.inl ⟨by rfl, ?_⟩) hHeld ?_
          rotate_left
          · intro w0 hSw; (try dsimp only at hSw); obtain ⟨d0, al⟩ := hSw; obtain ⟨a0, a1, a2, a3, a4, a5, a6, a7, a8, a9⟩ := alR al; go_simp <;> with_reducible rfl
          try simp only [Act.put, List.getElem_toArray, List.getElem_cons_zero, List.getElem_cons_succ, List.setIfInBounds_toArray, List.set_cons_zero, List.set_cons_succ]
          refine wpAnyH_done (by kernel_rfl) ?_ _
          go_wp2_with fail
          have hrc : Rc R K ptrs (alP (⟨i, ((0 : Nat) : Int), q.sensor⟩, (q, ab))) (⟨r.name, sv0, q.state, q.since, q.lts, q.sensor, q.metric, q.val⟩ : AcR) := ⟨_, hx, rfl, i, r, rfl, hr, rfl, hm0, rfl, rfl, rfl, rfl, rfl, rfl⟩
          refine ⟨⟨Y ++ [alP (⟨i, ((0 : Nat) : Int), q.sensor⟩, (q, ab))], Z', seen.push e.born, D ++ [(⟨r.name, sv0, q.state, q.since, q.lts, q.sensor, q.metric, q.val⟩ : AcR)], HR2.out, hRec.take (by simp [alP]) hrc, bw3, hit3, by rw [List.length_append, List.flatMap_append]; simpa using hO3, fun h => HNE.out (hnn.1 h).1⟩, ?_⟩
          rw [rngLeft_at (bw3.block mb hmlt) hes hit3, rngLeft_at (hb.block mb hmlt) hes hit]
          exact left_shrinks es seen e he
        · subst he'
          have HBV : Hid (Below w.heap.size w w5) := Below.step (Below.step HBW.out bQ) b5
          have HS : Hid (S11 rb ab i q r.name w5) := HSW.out w5 HBV.out
          have bW5 : Below W1.heap.size W1 w5 := Below.step bQ b5
          have HO : Hid (w5.ownsRow w.heap.size 71 12 u3 D.length (D.flatMap acCells)) := owns_below HOW.out bW5
          have HIT : Hid (w5.heap[it]? = some (.mapIter (some mb) clock (seen.push e.born) clock)) := (bW5.block it hitl).trans HITW.out
          have hsm : r.sevs[m]? = some r.sevs[m] := by simp
          obtain ⟨lm, _, _, _⟩ := (HLV.out.below bW5) m _ hsm
          have hmm : r.sevs[m] ∈ r.sevs := List.getElem_mem hm
          have d2' : w5.cell? ⟨rb, i * 6 + 2, none⟩ = some (.slice (some ⟨lb, 0, none⟩) r.sevs.length r.sevs.length) := (bW5.cell hrbl).trans d2
          clear hsm
          generalize r.sevs[m] = svm at *
          go_wp2_with fail
          refine wp_region_held_drew (S := S11 rb ab i q r.name) (by kernel_rfl) (HS.out.below ⟨rfl, rfl, rfl, Nat.le_refl _, fun _ _ => rfl⟩) (fun hHeld => ?_)
          refine wpAnyH_take (i := 0) (v := ?_) rfl (by kernel_rfl) (by kernel_rfl) (by kernel_rfl) (fun _ _ _ h => h) (Or.inl ⟨by rfl, ?_⟩) hHeld ?_
          rotate_left
          · intro w0 hSw; (try dsimp only at hSw); obtain ⟨d0, al⟩ := hSw; obtain ⟨a0, a1, a2, a3, a4, a5, a6, a7, a8, a9⟩ := alR al; go_simp <;> with_reducible rfl
          try simp only [Act.put, List.getElem_toArray, List.getElem_cons_zero, List.getElem_cons_succ, List.setIfInBounds_toArray, List.set_cons_zero, List.set_cons_succ]
          refine wpAnyH_take (i := 1) (v := ?_) rfl (by kernel_rfl) (by kernel_rfl) (by kernel_rfl) (fun _ _ _ h => h) (Or.inl ⟨by rfl, ?_⟩) hHeld ?_
          rotate_left
          · intro w0 hSw; (try dsimp only at hSw); obtain ⟨d0, al⟩ := hSw; obtain ⟨a0, a1, a2, a3, a4, a5, a6, a7, a8, a9⟩ := alR al; go_simp <;> with_reducible rfl
          try simp only [Act.put, List.getElem_toArray, List.getElem_cons_zero, List.getElem_cons_succ, List.setIfInBounds_toArray, List.set_cons_zero, List.set_cons_succ]
          refine wpAnyH_take (i := 2) (v := ?_) rfl (by kernel_rfl) (by kernel_rfl) (by kernel_rfl) (fun _ _ _ h => h) (Or.inl ⟨by rfl, ?_⟩) hHeld ?_
          rotate_left
          · intro w0 hSw; (try dsimp only at hSw); obtain ⟨d0, al⟩ := hSw; obtain ⟨a0, a1, a2, a3, a4, a5, a6, a7, a8, a9⟩ := alR al; go_simp <;> with_reducible rfl
          try simp only [Act.put, List.getElem_toArray, List.getElem_cons_zero, List.getElem_cons_succ, List.setIfInBounds_toArray, List.set_cons_zero, List.set_cons_succ]
          refine wpAnyH_take (i := 3) (v := ?_) rfl (by kernel_rfl) (by kernel_rfl) (by kernel_rfl) (fun _ _ _ h => h) (Or.inl ⟨by rfl, ?_⟩) hHeld ?_
          rotate_left
          · intro w0 hSw; (try dsimp only at hSw); obtain ⟨d0, al⟩ := hSw; obtain ⟨a0, a1, a2, a3, a4, a5, a6, a7, a8, a9⟩ := alR al; go_simp <;> with_reducible rfl
          try simp only [Act.put, List.getElem_toArray, List.getElem_cons_zero, List.getElem_cons_succ, List.setIfInBounds_toArray, List.set_cons_zero, List.set_cons_succ]
          refine wpAnyH_take (i := 4) (v := ?_) rfl (by kernel_rfl) (by kernel_rfl) (by kernel_rfl) (fun _ _ _ h => h) (Or.inl ⟨by rfl, ?_⟩) hHeld ?_
          rotate_left
          · intro w0 hSw; (try dsimp only at hSw); obtain ⟨d0, al⟩ := hSw; obtain ⟨a0, a1, a2, a3, a4, a5, a6, a7, a8, a9⟩ := alR al; go_simp <;> with_reducible rfl
          try simp only [Act.put, List.getElem_toArray, List.getElem_cons_zero, List.getElem_cons_succ, List.setIfInBounds_toArray, List.set_cons_zero, List.set_cons_succ]
          refine wpAnyH_take (i := 5) (v := ?_) rfl (by kernel_rfl) (by kernel_rfl) (by kernel_rfl) (fun _ _ _ h => h) (Or.inl ⟨by rfl, ?_⟩) hHeld ?_
          rotate_left
          · intro w0 hSw; (try dsimp only at hSw); obtain ⟨d0, al⟩ := hSw; obtain ⟨a0, a1, a2, a3, a4, a5, a6, a7, a8, a9⟩ := alR al; go_simp <;> with_reducible rfl
          try simp only [Act.put, List.getElem_toArray, List.getElem_cons_zero, List.getElem_cons_succ, List.setIfInBounds_toArray, List.set_cons_zero, List.set_cons_succ]
          refine wpAnyH_take (i := 6) (v := ?_) rfl (by kernel_rfl) (by kernel_rfl) (by kernel_rfl) (fun _ _ _ h => h) (Or.inl ⟨by rfl, ?_⟩) hHeld ?_
          rotate_left
          · intro w0 hSw; (try dsimp only at hSw); obtain ⟨d0, al⟩ := hSw; obtain ⟨a0, a1, a2, a3, a4, a5, a6, a7, a8, a9⟩ := alR al; go_simp <;> with_reducible rfl
          try simp only [Act.put, List.getElem_toArray, List.getElem_cons_zero, List.getElem_cons_succ, List.setIfInBounds_toArray, List.set_cons_zero, List.set_cons_succ]
          refine wpAnyH_take (i := 7) (v := ?_) rfl (by kernel_rfl) (by kernel_rfl) (by kernel_rfl) (fun _ _ _ h => h) (Or.inl ⟨by rfl, ?_⟩) hHeld ?_
          rotate_left
          · intro w0 hSw; (try dsimp only at hSw); obtain ⟨d0, al⟩ := hSw; obtain ⟨a0, a1, a2, a3, a4, a5, a6, a7, a8, a9⟩ := alR al; go_simp <;> with_reducible rfl
          try simp only [Act.put, List.getElem_toArray, List.getElem_cons_zero, List.getElem_cons_succ, List.setIfInBounds_toArray, List.set_cons_zero, List.set_cons_succ]
          refine wpAnyH_take (i := 8) (v := ?_) rfl (by kernel_rfl) (by kernel_rfl) (by kernel_rfl) (fun _ _ _ h => h) (Or.inl ⟨by rfl, ?_⟩) hHeld ?_
          rotate_left
          · intro w0 hSw; (try dsimp only at hSw); obtain ⟨d0, al⟩ := hSw; obtain ⟨a0, a1, a2, a3, a4, a5, a6, a7, a8, a9⟩ := alR al; go_simp <;> with_reducible rfl
          try simp only [Act.put, List.getElem_toArray, List.getElem_cons_zero, List.getElem_cons_succ, List.setIfInBounds_toArray, List.set_cons_zero, List.set_cons_succ]
          refine wpAnyH_take (i := 9) (v := ?_) rfl (by kernel_rfl) (by kernel_rfl) (by kernel_rfl) (fun _ _ _ h => h) (Or.inl ⟨by rfl, ?_⟩) hHeld ?_
          rotate_left
          · intro w0 hSw; (try dsimp only at hSw); obtain ⟨d0, al⟩ := hSw; obtain ⟨a0, a1, a2, a3, a4, a5, a6, a7, a8, a9⟩ := alR al; go_simp <;> with_reducible rfl
          try simp only [Act.put, List.getElem_toArray, List.getElem_cons_zero, List.getElem_cons_succ, List.setIfInBounds_toArray, List.set_cons_zero, List.set_cons_succ]
          refine wpAnyH_take (i := 10) (v := ?_) rfl (by kernel_rfl) (by kernel_rfl) (by kernel_rfl) (fun _ _ _ h => h) (Or.inl ⟨by rfl, ?_⟩) hHeld ?_
          rotate_left
          · intro w0 hSw; (try dsimp only at hSw); obtain ⟨d0, al⟩ := hSw; obtain ⟨a0, a1, a2, a3, a4, a5, a6, a7, a8, a9⟩ := alR al; go_simp <;> with_reducible rfl
          try simp only [Act.put, List.getElem_toArray, List.getElem_cons_zero, List.getElem_cons_succ, List.setIfInBounds_toArray, List.set_cons_zero, List.set_cons_succ]
          refine wpAnyH_take (i := 11) (v := ?_) rfl (by kernel_rfl) (by kernel_rfl) (by kernel_rfl) (fun _ _ _ h => h) (Or.inl ⟨by rfl, ?_⟩) hHeld ?_
          rotate_left
          · intro w0 hSw; (try dsimp only at hSw); obtain ⟨d0, al⟩ := hSw; obtain ⟨a0, a1, a2, a3, a4, a5, a6, a7, a8, a9⟩ := alR al; go_simp <;> with_reducible rfl
          try simp only [Act.put, List.getElem_toArray, List.getElem_cons_zero, List.getElem_cons_succ, List.setIfInBounds_toArray, List.set_cons_zero, List.set_cons_succ]
          refine wpAnyH_take (i := 12) (v := ?_) rfl (by kernel_rfl) (by kernel_rfl) (by kernel_rfl) (fun _ _ _ h => h) (Or.inl ⟨by rfl, ?_⟩) hHeld ?_
          rotate_left
          · intro w0 hSw; (try dsimp only at hSw); obtain ⟨d0, al⟩ := hSw; obtain ⟨a0, a1, a2, a3, a4, a5, a6, a7, a8, a9⟩ := alR al; go_simp <;> with_reducible rfl
          try simp only [Act.put, List.getElem_toArray, List.getElem_cons_zero, List.getElem_cons_succ, List.setIfInBounds_toArray, List.set_cons_zero, List.set_cons_succ]
          refine wpAnyH_take (i := 13) (v := ?_) rfl (by kernel_rfl) (by kernel_rfl) (by kernel_rfl) (fun _ _ _ h => h) (Or.inl ⟨by rfl, ?_⟩) hHeld ?_
          rotate_left
          · intro w0 hSw; (try dsimp only at hSw); obtain ⟨d0, al⟩ := hSw; obtain ⟨a0, a1, a2, a3, a4, a5, a6, a7, a8, a9⟩ := alR al; go_simp <;> with_reducible rfl
          try simp only [Act.put, List.getElem_toArray, List.getElem_cons_zero, List.getElem_cons_succ, List.setIfInBounds_toArray, List.set_cons_zero, List.set_cons_succ]
          refine wpAnyH_take (i := 14) (v := ?_) rfl (by kernel_rfl) (by kernel_rfl) (by kernel_rfl) (fun _ _ _ h => h) (Or.inl ⟨by rfl, ?_⟩) hHeld ?_
          rotate_left
          · intro w0 hSw; (try dsimp only at hSw); obtain ⟨d0, al⟩ := hSw; obtain ⟨a0, a1, a2, a3, a4, a5, a6, a7, a8, a9⟩ := alR al; go_simp <;> with_reducible rfl
          try simp only [Act.put, List.getElem_toArray, List.getElem_cons_zero, List.getElem_cons_succ, List.setIfInBounds_toArray, List.set_cons_zero, List.set_cons_succ]
          refine wpAnyH_take (i := 15) (v := ?_) rfl (by kernel_rfl) (by kernel_rfl) (by kernel_rfl) (fun _ _ _ h => h) (Or.inl ⟨by rfl, ?_⟩) hHeld ?_
          rotate_left
          · intro w0 hSw; (try dsimp only at hSw); obtain ⟨d0, al⟩ := hSw; obtain ⟨a0, a1, a2, a3, a4, a5, a6, a7, a8, a9⟩ := alR al; go_simp <;> with_reducible rfl
          try simp only [Act.put, List.getElem_toArray, List.getElem_cons_zero, List.getElem_cons_succ, List.setIfInBounds_toArray, List.set_cons_zero, List.set_cons_succ]
          refine wpAnyH_take (i := 16) (v := ?_) rfl (by kernel_rfl) (by kernel_rfl) (by kernel_rfl) (fun _ _ _ h => h) (Or.inl ⟨by rfl, ?_⟩) hHeld ?_
          rotate_left
          · intro w0 hSw; (try dsimp only at hSw); obtain ⟨d0, al⟩ := hSw; obtain ⟨a0, a1, a2, a3, a4, a5, a6, a7, a8, a9⟩ := alR al; go_simp <;> with_reducible rfl
          try simp only [Act.put, List.getElem_toArray, List.getElem_cons_zero, List.getElem_cons_succ, List.setIfInBounds_toArray, List.set_cons_zero, List.set_cons_succ]
          refine wpAnyH_take (i := 17) (v := ?_) rfl (by kernel_rfl) (by kernel_rfl) (by kernel_rfl) (fun _ _ _ h => h) (Or.inl ⟨by rfl, ?_⟩) hHeld ?_
          rotate_left
          · intro w0 hSw; (try dsimp only at hSw); obtain ⟨d0, al⟩ := hSw; obtain ⟨a0, a1, a2, a3, a4, a5, a6, a7, a8, a9⟩ := alR al; go_simp <;> with_reducible rfl
          try simp only [Act.put, List.getElem_toArray, List.getElem_cons_zero, List.getElem_cons_succ, List.setIfInBounds_toArray, List.set_cons_zero, List.set_cons_succ]
          refine wpAnyH_take (i := 18) (v := ?_) rfl (by kernel_rfl) (by kernel_rfl) (by kernel_rfl) (fun _ _ _ h => h) (Or.inl ⟨by rfl, ?_⟩) hHeld ?_
          rotate_left
          · intro w0 hSw; (try dsimp only at hSw); obtain ⟨d0, al⟩ := hSw; obtain ⟨a0, a1, a2, a3, a4, a5, a6, a7, a8, a9⟩ := alR al; go_simp <;> with_reducible rfl
          try simp only [Act.put, List.getElem_toArray, List.getElem_cons_zero, List.getElem_cons_succ, List.setIfInBounds_toArray, List.set_cons_zero, List.set_cons_succ]
          refine wpAnyH_ready (rs := [19]) (by kernel_rfl) (by simp) ?_
          refine AllReadyH.cons rfl (fun K0 hK0 => ?_) AllReadyH.nil
          rw [if_pos (by simp [Region.wanted])]
          go_simp
          obtain ⟨V2, HV2⟩ : ∃ W, Hid (W = (w5.alloc (.cells (acCells (⟨r.name, svm, q.state, q.since, q.lts, q.sensor, q.metric, q.val⟩ : AcR)).toArray 71)).drew) := ⟨_, rfl⟩
          rw [show (w5.alloc (.cells #[.string r.name, .string svm, .string q.state, .int .u64 (q.since % 1000000000), .int .i64 (q.since / 1000000000), .pointer none, .int .u64 (q.lts % 1000000000), .int .i64 (q.lts / 1000000000), .pointer none, .string q.sensor, .string q.metric, .float .f64 q.val] 71)).drew = V2 from HV2.out.symm]
          have bV2 : Below w5.heap.size w5 V2 := by rw [HV2.out]; exact ((Below.refl _ _).alloc (Nat.le_refl _) _).drew
          have hO2 : V2.ownsRow w.heap.size 71 12 u3 D.length (D.flatMap acCells) := owns_below HO.out bV2
          have hN2 : ∀ j u, (acCells (⟨r.name, svm, q.state, q.since, q.lts, q.sensor, q.metric, q.val⟩ : AcR))[j]? = some u → V2.cell? ((⟨w5.heap.size, 0, none⟩ : Addr).add j) = some u := by rw [HV2.out]; exact ac_new w5 (⟨r.name, svm, q.state, q.since, q.lts, q.sensor, q.metric, q.val⟩ : AcR)
          have hit2 : V2.heap[it]? = some (.mapIter (some mb) clock (seen.push e.born) clock) := (bV2.block it (Array.getElem?_eq_some_iff.1 HIT.out).1).trans HIT.out
          have hS2 := HS.out.below bV2
          refine hK0.out _ _ hS2 (fun hHeld => ?_)
          clear hK0 K0
          try simp only [Act.put, List.getElem_toArray, List.getElem_cons_zero, List.getElem_cons_succ, List.setIfInBounds_toArray, List.set_cons_zero, List.set_cons_succ]
          refine wpAnyH_ready (rs := [20]) (by kernel_rfl) (by simp) ?_
          refine AllReadyH.cons rfl (fun K0 hK0 => ?_) AllReadyH.nil
          rw [if_pos (by simp [Region.wanted])]
          refine wp_append_own _ _ _ 39 (by rfl) w.heap.size 71 i71 z71 12 136 Try.underlying39 hi7 hz7 hs7 hby7 hzs7 (by decide) _ _ _ (by rfl) hO2 ⟨w5.heap.size, 0, none⟩ 1 1 (acCells (⟨r.name, svm, q.state, q.since, q.lts, q.sensor, q.metric, q.val⟩ : AcR)) (by rfl) rfl hN2 (acOne _) (by unfold maxLen; omega) (by omega) (by have := HBV.out.size; have := bV2.size; omega) ?_
          intro v3 V3 hO3 hg3 hnn
          have bw3 : Below w.heap.size w V3 := (Below.step HBV.out bV2).grown hg3 (by have := HBV.out.size; have := bV2.size; omega) (fun j hj => (hO2.lt j hj).1)
          have hit3 : V3.heap[it]? = some (.mapIter (some mb) clock (seen.push e.born) clock) := by
            rw [hg3.block it (Array.getElem?_eq_some_iff.1 hit2).1 ?_]
            · exact hit2
            · intro ee
              rcases hO2.2 with ⟨rfl, _⟩ | ⟨g0, cap0, cur0, rfl, _, hgb, _⟩
              · simp [Value.ownBlock] at ee
              · simp only [Value.ownBlock] at ee
                have e' : it = g0 := Option.some.inj ee
                subst e'
                rw [hgb] at hit2
                cases hit2
          have hS3 : S11 rb ab i q r.name V3 := HSW.out V3 bw3
          refine hK0.out _ _ hS3 (fun hHeld => ?_)
          clear hK0 K0
          try simp only [Act.put, List.getElem_toArray, List.getElem_cons_zero, List.getElem_cons_succ, List.setIfInBounds_toArray, List.set_cons_zero, List.set_cons_succ]
          refine wpAnyH_take (i := 21) (v := ?_) rfl (by kernel_rfl) (by kernel_rfl) (by kernel_rfl) (fun _ _ _ h => h) (Or.inl ⟨by rfl, ?_⟩) hHeld ?_
          rotate_left
          · intro w0 hSw; (try dsimp only at hSw); obtain ⟨d0, al⟩ := hSw; obtain ⟨a0, a1, a2, a3, a4, a5, a6, a7, a8, a9⟩ := alR al; go_simp <;> with_reducible rfl
          try simp only [Act.put, List.getElem_toArray, List.getElem_cons_zero, List.getElem_cons_succ, List.setIfInBounds_toArray, List.set_cons_zero, List.set_cons_succ]
          refine wpAnyH_done (by kernel_rfl) ?_ _
          go_wp2_with fail
          have hrc : Rc R K ptrs (alP (⟨i, ((0 : Nat) : Int), q.sensor⟩, (q, ab))) (⟨r.name, svm, q.state, q.since, q.lts, q.sensor, q.metric, q.val⟩ : AcR) := ⟨_, hx, rfl, i, r, rfl, hr, rfl, hmm, rfl, rfl, rfl, rfl, rfl, rfl⟩
          refine ⟨⟨Y ++ [alP (⟨i, ((0 : Nat) : Int), q.sensor⟩, (q, ab))], Z', seen.push e.born, D ++ [(⟨r.name, svm, q.state, q.since, q.lts, q.sensor, q.metric, q.val⟩ : AcR)], HR2.out, hRec.take (by simp [alP]) hrc, bw3, hit3, by rw [List.length_append, List.flatMap_append]; simpa using hO3, fun h => HNE.out (hnn.1 h).1⟩, ?_⟩
          rw [rngLeft_at (bw3.block mb hmlt) hes hit3, rngLeft_at (hb.block mb hmlt) hes hit]
          exact left_shrinks es seen e he
      · have hlvp : (0 : Int) < (lv : Int) := by omega
        go_wp2_with fail
        refine ⟨⟨Y ++ [alP (⟨i, lv, q.sensor⟩, (q, ab))], Z', seen.push e.born, D, HR2.out, hRec.skip (by simp [alP]; omega), HBW.out.alloc HBW.out.size _, (heap_alloc_old W1 _ hitl).trans HITW.out, HOW.out.alloc _, HNE.out⟩, ?_⟩
        rw [rngLeft_at ((HBW.out.alloc HBW.out.size _).block mb hmlt) hes ((heap_alloc_old W1 _ hitl).trans HITW.out), rngLeft_at (hb.block mb hmlt) hes hit]
        exact left_shrinks es seen e he
end
end Go.Proofs.Qxb6605676a.Kz
