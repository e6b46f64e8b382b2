import Derived.Test.Qxb6605676aKz44
import Derived.Deep.RegionHeld3
namespace Go.Proofs.Qxb6605676a.Kz
set_option linter.unusedVariables false
set_option linter.unusedSimpArgs false
open Go.Shelf Go.RowKit Go.Lib
open Go.Sort hiding Below

set_option maxHeartbeats 800000 in
/-- cmp.Or of two integers. -/
theorem or65 (x y : Int) (b : Nat) (W : World) (h0 : W.cell? ⟨b, 0, none⟩ = some (.int .i64 x)) (h1 : W.cell? ⟨b, 1, none⟩ = some (.int .i64 y)) :
    Calls Try.prog 65 #[.slice (some ⟨b, 0, none⟩) 2 2] W fun e w' => e = .returned (.int .i64 (if x = 0 then y else x)) ∧ w' = W := by
  by_cases hx : x = 0
  · subst hx
    by_cases hy : y = 0
    · subst hy
      go_enter Try.func65, Try.ntmps65
      go_wp2
      refine wp_loop_rounds 3 ?_
      rw [rounds_succ]
      go_wp2
      rw [rounds_succ]
      go_wp2
      rw [rounds_succ]
      go_wp2
      go_ret
      exact ⟨rfl, rfl⟩
    · have hy' : (y == 0) = false := by simpa using hy
      go_enter Try.func65, Try.ntmps65
      go_wp2
      refine wp_loop_rounds 3 ?_
      rw [rounds_succ]
      go_wp2
      rw [rounds_succ]
      go_wp2
      go_ret
      exact ⟨rfl, rfl⟩
  · have hx' : (x == 0) = false := by simpa using hx
    rw [if_neg hx]
    go_enter Try.func65, Try.ntmps65
    go_wp2
    refine wp_loop_rounds 3 ?_
    rw [rounds_succ]
    go_wp2
    go_ret
    exact ⟨rfl, rfl⟩

theorem cmp66 (a b : ByteArray) (W : World) : Calls Try.prog 66 #[.string a, .string b] W fun e w' => e = .returned (.int .i64 (compareBytes a.data.toList b.data.toList)) ∧ w' = W := by
  have h := Any.strings_Compare Try.strCmp a b W
  change Calls Try.prog 66 _ _ _ at h
  exact h

instance : Inhabited AcR := ⟨⟨⟨#[]⟩, ⟨#[]⟩, ⟨#[]⟩, 0, 0, ⟨#[]⟩, ⟨#[]⟩, 0⟩⟩

/-- What the closure reads. -/
structure S64 (b c : Nat) (x y : AcR) (W : World) : Prop where
  s0 : W.cell? ⟨b, 0, none⟩ = some (.string x.rule)
  s1 : W.cell? ⟨c, 0, none⟩ = some (.string y.rule)
  s2 : W.cell? ⟨b, 9, none⟩ = some (.string x.sensor)
  s3 : W.cell? ⟨c, 9, none⟩ = some (.string y.sensor)
theorem S64.kept {b c : Nat} {x y : AcR} {W W' : World} (h : S64 b c x y W) (hb : Below W.heap.size W W') : S64 b c x y W' :=
  ⟨by rw [hb.cell (World.block_lt_of_cell? W _ h.s0)]; exact h.s0, by rw [hb.cell (World.block_lt_of_cell? W _ h.s1)]; exact h.s1, by rw [hb.cell (World.block_lt_of_cell? W _ h.s2)]; exact h.s2, by rw [hb.cell (World.block_lt_of_cell? W _ h.s3)]; exact h.s3⟩

attribute [local go_sem] Rm.run_store_float
set_option maxHeartbeats 3200000 in
set_option maxRecDepth 100000 in
theorem closure64 (x y : AcR) (W : World) : Calls Try.prog 64 #[.agg (acCells x).toArray, .agg (acCells y).toArray] W fun e w' => e = .returned (.int .i64 (cfA x y)) ∧ ∃ q os', w' = grow (W.drewN q) os' := by
  have HC1 : Hid (∀ V, Calls Try.prog 66 #[.string x.rule, .string y.rule] V fun e w' => e = .returned (.int .i64 (compareBytes x.rule.data.toList y.rule.data.toList)) ∧ w' = V) := fun V => cmp66 x.rule y.rule V
  have HC2 : Hid (∀ V, Calls Try.prog 66 #[.string x.sensor, .string y.sensor] V fun e w' => e = .returned (.int .i64 (compareBytes x.sensor.data.toList y.sensor.data.toList)) ∧ w' = V) := fun V => cmp66 x.sensor y.sensor V
  have hcf : Hid (cfA x y = if compareBytes x.rule.data.toList y.rule.data.toList = 0 then compareBytes x.sensor.data.toList y.sensor.data.toList else compareBytes x.rule.data.toList y.rule.data.toList) := rfl
  generalize compareBytes x.rule.data.toList y.rule.data.toList = c1 at *
  generalize compareBytes x.sensor.data.toList y.sensor.data.toList = c2 at *
  simp only [acCells]
  go_enter Try.func64, Try.ntmps64
  go_wp2_with fail
  obtain ⟨V, HV⟩ : ∃ V, Hid (V = (W.alloc (.cells (acCells x).toArray 71)).alloc (.cells (acCells y).toArray 71)) := ⟨_, rfl⟩
  have hn1 : (W.alloc (.cells (acCells x).toArray 71)).heap.size = W.heap.size + 1 := by simp
  have hc0 : V.heap[W.heap.size]? = some (.cells (acCells x).toArray 71) := by rw [HV.out, heap_alloc_old _ _ (by rw [hn1]; omega)]; exact heap_alloc_new W _
  have hc1 : V.heap[W.heap.size + 1]? = some (.cells (acCells y).toArray 71) := by rw [HV.out, ← hn1]; exact heap_alloc_new _ _
  have HS : Hid (S64 W.heap.size (W.heap.size + 1) x y V) := ⟨by simp [World.cell?, hc0, acCells], by simp [World.cell?, hc1, acCells], by simp [World.cell?, hc0, acCells], by simp [World.cell?, hc1, acCells]⟩
  clear hc0 hc1 hn1
  rw [show (W.alloc (.cells #[.string x.rule, .string x.sev, .string x.state, .int .u64 (x.since % 1000000000), .int .i64 (x.since / 1000000000), .pointer none, .int .u64 (x.lts % 1000000000), .int .i64 (x.lts / 1000000000), .pointer none, .string x.sensor, .string x.metric, .float .f64 x.val] 71)).alloc (.cells #[.string y.rule, .string y.sev, .string y.state, .int .u64 (y.since % 1000000000), .int .i64 (y.since / 1000000000), .pointer none, .int .u64 (y.lts % 1000000000), .int .i64 (y.lts / 1000000000), .pointer none, .string y.sensor, .string y.metric, .float .f64 y.val] 71) = V from HV.out.symm]
  refine wp_region_held_drew (S := S64 W.heap.size (W.heap.size + 1) x y) (by kernel_rfl) (HS.out.kept ⟨rfl, rfl, rfl, Nat.le_refl _, fun _ _ => rfl⟩) (fun hHeld => ?_)
  refine wpAnyH_take (i := 0) (v := ?_) rfl (by kernel_rfl) (by kernel_rfl) (by kernel_rfl) (fun _ _ _ h => h) (Or.inl ⟨by rfl, ?_⟩) hHeld ?_
  rotate_left
  · intro w0 hSw; (try dsimp only at hSw); obtain ⟨s0, s1, s2, s3⟩ := hSw; go_simp <;> with_reducible rfl
  try simp only [Act.put, List.getElem_toArray, List.getElem_cons_zero, List.getElem_cons_succ, List.setIfInBounds_toArray, List.set_cons_zero, List.set_cons_succ]
  refine wpAnyH_take (i := 1) (v := ?_) rfl (by kernel_rfl) (by kernel_rfl) (by kernel_rfl) (fun _ _ _ h => h) (Or.inl ⟨by rfl, ?_⟩) hHeld ?_
  rotate_left
  · intro w0 hSw; (try dsimp only at hSw); obtain ⟨s0, s1, s2, s3⟩ := hSw; go_simp <;> with_reducible rfl
  try simp only [Act.put, List.getElem_toArray, List.getElem_cons_zero, List.getElem_cons_succ, List.setIfInBounds_toArray, List.set_cons_zero, List.set_cons_succ]
  refine wpAnyH_take (i := 2) (v := ?_) rfl (by kernel_rfl) (by kernel_rfl) (by kernel_rfl) (fun _ _ _ h => h) (Or.inl ⟨by rfl, ?_⟩) hHeld ?_
  rotate_left
  · intro w0 hSw; (try dsimp only at hSw); obtain ⟨s0, s1, s2, s3⟩ := hSw; go_simp <;> with_reducible rfl
  try simp only [Act.put, List.getElem_toArray, List.getElem_cons_zero, List.getElem_cons_succ, List.setIfInBounds_toArray, List.set_cons_zero, List.set_cons_succ]
  refine wpAnyH_take (i := 3) (v := ?_) rfl (by kernel_rfl) (by kernel_rfl) (by kernel_rfl) (fun _ _ _ h => h) (Or.inl ⟨by rfl, ?_⟩) hHeld ?_
  rotate_left
  · intro w0 hSw; (try dsimp only at hSw); obtain ⟨s0, s1, s2, s3⟩ := hSw; go_simp <;> with_reducible rfl
  try simp only [Act.put, List.getElem_toArray, List.getElem_cons_zero, List.getElem_cons_succ, List.setIfInBounds_toArray, List.set_cons_zero, List.set_cons_succ]
  refine wpAnyH_take (i := 5) (v := ?_) rfl (by kernel_rfl) (by kernel_rfl) (by kernel_rfl) (fun _ _ _ h => h) (Or.inl ⟨by rfl, ?_⟩) hHeld ?_
  rotate_left
  · intro w0 hSw; (try dsimp only at hSw); obtain ⟨s0, s1, s2, s3⟩ := hSw; go_simp <;> with_reducible rfl
  try simp only [Act.put, List.getElem_toArray, List.getElem_cons_zero, List.getElem_cons_succ, List.setIfInBounds_toArray, List.set_cons_zero, List.set_cons_succ]
  refine wpAnyH_take (i := 6) (v := ?_) rfl (by kernel_rfl) (by kernel_rfl) (by kernel_rfl) (fun _ _ _ h => h) (Or.inl ⟨by rfl, ?_⟩) hHeld ?_
  rotate_left
  · intro w0 hSw; (try dsimp only at hSw); obtain ⟨s0, s1, s2, s3⟩ := hSw; go_simp <;> with_reducible rfl
  try simp only [Act.put, List.getElem_toArray, List.getElem_cons_zero, List.getElem_cons_succ, List.setIfInBounds_toArray, List.set_cons_zero, List.set_cons_succ]
  refine wpAnyH_take (i := 7) (v := ?_) rfl (by kernel_rfl) (by kernel_rfl) (by kernel_rfl) (fun _ _ _ h => h) (Or.inl ⟨by rfl, ?_⟩) hHeld ?_
  rotate_left
  · intro w0 hSw; (try dsimp only at hSw); obtain ⟨s0, s1, s2, s3⟩ := hSw; go_simp <;> with_reducible rfl
  try simp only [Act.put, List.getElem_toArray, List.getElem_cons_zero, List.getElem_cons_succ, List.setIfInBounds_toArray, List.set_cons_zero, List.set_cons_succ]
  refine wpAnyH_take (i := 8) (v := ?_) rfl (by kernel_rfl) (by kernel_rfl) (by kernel_rfl) (fun _ _ _ h => h) (Or.inl ⟨by rfl, ?_⟩) hHeld ?_
  rotate_left
  · intro w0 hSw; (try dsimp only at hSw); obtain ⟨s0, s1, s2, s3⟩ := hSw; go_simp <;> with_reducible rfl
  try simp only [Act.put, List.getElem_toArray, List.getElem_cons_zero, List.getElem_cons_succ, List.setIfInBounds_toArray, List.set_cons_zero, List.set_cons_succ]
  refine wpAnyH_take (i := 9) (v := ?_) rfl (by kernel_rfl) (by kernel_rfl) (by kernel_rfl) (fun _ _ _ h => h) (Or.inl ⟨by rfl, ?_⟩) hHeld ?_
  rotate_left
  · intro w0 hSw; (try dsimp only at hSw); obtain ⟨s0, s1, s2, s3⟩ := hSw; go_simp <;> with_reducible rfl
  try simp only [Act.put, List.getElem_toArray, List.getElem_cons_zero, List.getElem_cons_succ, List.setIfInBounds_toArray, List.set_cons_zero, List.set_cons_succ]
  refine wpAnyH_take (i := 10) (v := ?_) rfl (by kernel_rfl) (by kernel_rfl) (by kernel_rfl) (fun _ _ _ h => h) (Or.inl ⟨by rfl, ?_⟩) hHeld ?_
  rotate_left
  · intro w0 hSw; (try dsimp only at hSw); obtain ⟨s0, s1, s2, s3⟩ := hSw; go_simp <;> with_reducible rfl
  try simp only [Act.put, List.getElem_toArray, List.getElem_cons_zero, List.getElem_cons_succ, List.setIfInBounds_toArray, List.set_cons_zero, List.set_cons_succ]
  refine wpAnyH_ready (rs := [4]) (by kernel_rfl) (by simp) ?_
  refine AllReadyH.cons rfl (fun K0 hK0 => ?_) AllReadyH.nil
  rw [if_pos (by simp [Region.wanted])]
  go_simp
  refine (HC1.out _).mono ?_
  rintro e _ ⟨rfl, rfl⟩
  refine hK0.out _ _ (HS.out.kept ⟨rfl, rfl, rfl, Nat.le_refl _, fun _ _ => rfl⟩) (fun hHeld => ?_)
  clear hK0 K0
  try simp only [Act.put, List.getElem_toArray, List.getElem_cons_zero, List.getElem_cons_succ, List.setIfInBounds_toArray, List.set_cons_zero, List.set_cons_succ]
  refine wpAnyH_ready (rs := [11]) (by kernel_rfl) (by simp) ?_
  refine AllReadyH.cons rfl (fun K0 hK0 => ?_) AllReadyH.nil
  rw [if_pos (by simp [Region.wanted])]
  go_simp
  refine (HC2.out _).mono ?_
  rintro e _ ⟨rfl, rfl⟩
  refine hK0.out _ _ (HS.out.kept ⟨rfl, rfl, rfl, Nat.le_refl _, fun _ _ => rfl⟩) (fun hHeld => ?_)
  clear hK0 K0
  try simp only [Act.put, List.getElem_toArray, List.getElem_cons_zero, List.getElem_cons_succ, List.setIfInBounds_toArray, List.set_cons_zero, List.set_cons_succ]
  refine wpAnyH_ready (rs := [12]) (by kernel_rfl) (by simp) ?_
  refine AllReadyH.cons rfl (fun K0 hK0 => ?_) AllReadyH.nil
  rw [if_pos (by simp [Region.wanted])]
  go_simp
  obtain ⟨V3, HV3⟩ : ∃ V3, Hid (V3 = (V.alloc (.cells #[.int .i64 c1, .int .i64 c2] 3)).drew) := ⟨_, rfl⟩
  rw [← HV3.out]
  have b3 : Below V.heap.size V V3 := by rw [HV3.out]; exact ((Below.refl _ _).alloc (Nat.le_refl _) _).drew
  have hn3 : V3.heap[V.heap.size]? = some (.cells #[.int .i64 c1, .int .i64 c2] 3) := by rw [HV3.out]; exact heap_alloc_new V _
  have HO : Hid (Calls Try.prog 65 #[.slice (some ⟨V.heap.size, 0, none⟩) 2 2] V3 fun e w' => e = .returned (.int .i64 (if c1 = 0 then c2 else c1)) ∧ w' = V3) := or65 c1 c2 V.heap.size V3 (by simp [World.cell?, hn3]) (by simp [World.cell?, hn3])
  rw [← hcf.out] at HO
  refine hK0.out _ _ (HS.out.kept b3) (fun hHeld => ?_)
  clear hK0 K0
  try simp only [Act.put, List.getElem_toArray, List.getElem_cons_zero, List.getElem_cons_succ, List.setIfInBounds_toArray, List.set_cons_zero, List.set_cons_succ]
  refine wpAnyH_ready (rs := [13]) (by kernel_rfl) (by simp) ?_
  refine AllReadyH.cons rfl (fun K0 hK0 => ?_) AllReadyH.nil
  rw [if_pos (by simp [Region.wanted])]
  go_simp
  refine HO.out.mono ?_
  rintro e w4 ⟨rfl, hw4⟩
  subst hw4
  refine hK0.out _ _ (HS.out.kept b3) (fun hHeld => ?_)
  clear hK0 K0
  try simp only [Act.put, List.getElem_toArray, List.getElem_cons_zero, List.getElem_cons_succ, List.setIfInBounds_toArray, List.set_cons_zero, List.set_cons_succ]
  refine wpAnyH_take (i := 14) (v := ?_) rfl (by kernel_rfl) (by kernel_rfl) (by kernel_rfl) (fun _ _ _ h => h) (Or.inl ⟨by rfl, ?_⟩) hHeld ?_
  rotate_left
  · intro w0 hSw; (try dsimp only at hSw); obtain ⟨s0, s1, s2, s3⟩ := hSw; go_simp <;> with_reducible rfl
  try simp only [Act.put, List.getElem_toArray, List.getElem_cons_zero, List.getElem_cons_succ, List.setIfInBounds_toArray, List.set_cons_zero, List.set_cons_succ]
  refine wpAnyH_done (by kernel_rfl) ?_ _
  go_wp2_with fail
  go_ret
  refine ⟨rfl, 1, #[.cells (acCells x).toArray 71, .cells (acCells y).toArray 71, .cells #[.int .i64 c1, .int .i64 c2] 3], ?_⟩
  rw [HV3.out, HV.out, alloc_eq_grow, alloc_eq_grow, alloc_eq_grow, grow_grow, grow_grow]
  rfl

theorem cmpLays64 (g off size : Nat) (W : World) : CmpLays Try.prog 64 #[] acCells 12 cfA g off size W :=
  fun _ _ _ _ x y => closure64 x y _

theorem below_sortK {W : World} {g off n B : Nat} {d : Array AcR} {os : Array Obj} (hB : B ≤ g) (hg : g < W.heap.size) : Below B W (sortWorldK acCells 12 W g off n d os) := by
  have hsz : (sortWorldK acCells 12 W g off n d os).heap = (W.heap.modify g (onCells (putCells id off (flatK acCells 12 d)))) ++ os := rfl
  refine ⟨rfl, rfl, rfl, ?_, fun k hk => ?_⟩
  · rw [hsz]; simp
  · rw [hsz, Array.getElem?_append_left (by simp; omega), Array.getElem?_modify]
    rw [if_neg (by omega)]

/-- Sorted: no later one is less than an earlier one. -/
def SortedL (D : List AcR) : Prop := ∀ (i j : Nat) (a b : AcR), D[i]? = some a → D[j]? = some b → i < j → ltOf cfA b a = false

theorem rows_holds {W : World} {g : Nat} {D : List AcR} (h : RowsAt W g 12 acCells D) (hf : ∀ j, j < D.length * 12 → W.frozen? ⟨g, j, none⟩ = false) : HoldsK acCells 12 W g 0 D.toArray := by
  intro t ht
  have ht' : t < D.length * 12 := by simpa using ht
  rw [get_flatK acCells 12 D.toArray t (by simpa using ht')]
  have hj : t / 12 < D.length := by omega
  have hc : t % 12 < 12 := Nat.mod_lt _ (by omega)
  refine ⟨?_, by rw [Nat.zero_add]; exact hf t ht'⟩
  have hx : D[t / 12]? = some D[t / 12] := by simp
  have hcl : t % 12 < (acCells D[t / 12]).length := by rw [acLen]; exact hc
  have h1 := h (t / 12) _ hx (t % 12) _ (List.getElem?_eq_getElem hcl)
  have e : t / 12 * 12 + t % 12 = t := by omega
  rw [e] at h1
  rw [Nat.zero_add, h1]
  rw [getElem!_pos D.toArray (t / 12) (by simpa using hj)]
  simp only [List.getElem_toArray, id]
  rw [getElem!_pos _ (t % 12) hcl]

theorem sort63 (w : World) (D : List AcR) (g cap : Nat) (W : World) (hr : RowsAt W g 12 acCells D) (hw : w.heap.size ≤ g) (hg : g < W.heap.size) (hl : D.length ≤ 4096) (hf : ∀ j, j < D.length * 12 → W.frozen? ⟨g, j, none⟩ = false) :
    Calls Try.prog 63 #[.slice (some ⟨g, 0, none⟩) D.length cap, .func (.func 64) #[] #[]] W fun e w' => e = .returned (.tuple #[]) ∧ ∃ D', (D'.Perm D ∧ SortedL D') ∧ D'.length = D.length ∧ RowsAt w' g 12 acCells D' ∧ Below w.heap.size W w' := by
  have eg : ∀ args w, (callFunc 64 args).run Try.prog w = .ok (.enter 64 args) w := enters_of Try.func64 (by kernel_rfl) rfl
  have hH := rows_holds hr hf
  have hcon := AnyQ.slices_SortFunc Try.sortAct 12 Try.isAgg71 Try.sizeOf71 acCells acLen acOne cfA swoA 64 #[] g 0 cap D.toArray W eg (cmpLays64 g 0 _ W) hH hg (by simp; omega)
  change Calls Try.prog 63 _ _ _ at hcon
  have hsz : D.toArray.size = D.length := by simp
  rw [hsz] at hcon
  refine hcon.mono ?_
  rintro e w' ⟨rfl, d', n, os, hp, hs, rfl⟩
  have hd : d'.size = D.length := by rw [hp.1, hsz]
  refine ⟨rfl, d'.toList, ⟨?_, ?_⟩, by simpa using hd, ?_, below_sortK hw hg⟩
  · have := hp.2.2
    have e1 : (d'.extract 0 D.length).toList = d'.toList := by
      have : d'.extract 0 D.length = d' := by rw [← hd]; exact Array.extract_size
      rw [this]
    have e2 : (D.toArray.extract 0 D.length).toList = D := by simp
    rw [e1, e2] at this
    exact this
  · intro i j a b hi hj hij
    have hjl : j < d'.size := by simpa using (List.getElem?_eq_some_iff.1 hj).1
    have := hs i j (Nat.zero_le _) hij (by omega)
    rw [getElem!_pos d' j hjl, getElem!_pos d' i (by omega)] at this
    have ea : d'[i]'(by omega) = a := by have := (List.getElem?_eq_some_iff.1 hi).2; simpa using this
    have eb : d'[j] = b := by have := (List.getElem?_eq_some_iff.1 hj).2; simpa using this
    rw [ea, eb] at this
    exact this
  · have hk := holdsK_sortWorldK acCells 12 W g 0 n D.toArray d' os hg hH hp.1
    intro j x hx c v hv
    have hjl : j < d'.size := by simpa using (List.getElem?_eq_some_iff.1 hx).1
    have hc : c < 12 := (List.getElem?_eq_some_iff.1 hv).1
    have := (hk.cell hjl hc).1
    rw [getElem!_pos d' j hjl] at this
    have ex : d'[j] = x := by have := (List.getElem?_eq_some_iff.1 hx).2; simpa using this
    rw [ex, Nat.zero_add] at this
    rw [this]
    have hc' : c < (acCells x).length := by rw [acLen]; exact hc
    rw [getElem!_pos (acCells x) c hc']
    rw [List.getElem?_eq_getElem hc'] at hv
    exact hv
end Go.Proofs.Qxb6605676a.Kz
