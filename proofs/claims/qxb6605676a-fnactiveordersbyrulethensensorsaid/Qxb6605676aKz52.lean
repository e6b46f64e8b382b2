import Derived.Test.Qxb6605676aKz51
import Derived.Test.Qxb6605676aKz3
import Derived.Deep.RegionHeld3
namespace Go.Proofs.Qxb6605676a.Kz
set_option linter.unusedVariables false
set_option linter.unusedSimpArgs false
open Go.RowKit Go.Lib

/-! ### zzEntryLess -/
/-- An entry of the law's own model: the rule's place, the sensor, the key state's place, the severity. -/
structure EN where
  rule : Nat
  sensor : ByteArray
  src : Int
  sev : ByteArray
def enCells (e : EN) : List Value := [.int .i64 e.rule, .string e.sensor, .int .i64 e.src, .string e.sev]
def noR : RuleD := ⟨⟨#[]⟩, ⟨#[]⟩, []⟩
/-- By the rule's name, then by the sensor. -/
def enLess (R : List RuleD) (x y : EN) : Bool := if (R.getD x.rule noR).name.toList == (R.getD y.rule noR).name.toList then decide (compareBytes x.sensor.data.toList y.sensor.data.toList < 0)
  else decide (compareBytes (R.getD x.rule noR).name.data.toList (R.getD y.rule noR).name.data.toList < 0)
structure S80 (rz bx bz i j : Nat) (n1 n2 : ByteArray) (W : World) : Prop where
  s0 : W.cell? ⟨bx, 0, none⟩ = some (.int .i64 i)
  s1 : W.cell? ⟨bz, 0, none⟩ = some (.int .i64 j)
  s2 : W.cell? ⟨rz, i * 3, none⟩ = some (.string n1)
  s3 : W.cell? ⟨rz, j * 3, none⟩ = some (.string n2)
theorem S80.kept {rz bx bz i j : Nat} {n1 n2 : ByteArray} {W W' : World} (h : S80 rz bx bz i j n1 n2 W) (hb : Below W.heap.size W W') : S80 rz bx bz i j n1 n2 W' :=
  ⟨by rw [hb.cell (World.block_lt_of_cell? W _ h.s0)]; exact h.s0, by rw [hb.cell (World.block_lt_of_cell? W _ h.s1)]; exact h.s1, by rw [hb.cell (World.block_lt_of_cell? W _ h.s2)]; exact h.s2, by rw [hb.cell (World.block_lt_of_cell? W _ h.s3)]; exact h.s3⟩

set_option maxHeartbeats 2000000 in
set_option maxRecDepth 100000 in
theorem entryLess_any (R : List RuleD) (x y : EN) (rz : Nat) (W : World) (hR : RulesAt W rz R) (hx : x.rule < R.length) (hy : y.rule < R.length) (hRl : R.length ≤ 1000) (hns : ∀ r ∈ R, r.name.size < 2 ^ 63) (sx : x.sensor.size < 2 ^ 63) (sy : y.sensor.size < 2 ^ 63) :
    Calls Try.prog 80 #[.slice (some ⟨rz, 0, none⟩) R.length R.length, .agg (enCells x).toArray, .agg (enCells y).toArray] W fun e w' => e = .returned (.bool (enLess R x y)) ∧ Below W.heap.size W w' := by
  obtain ⟨d1, _, _⟩ := hR x.rule R[x.rule] (by simp)
  obtain ⟨d2, _, _⟩ := hR y.rule R[y.rule] (by simp)
  have hn1 := hns R[x.rule] (List.getElem_mem hx)
  have hn2 := hns R[y.rule] (List.getElem_mem hy)
  have hless : enLess R x y = if R[x.rule].name.toList == R[y.rule].name.toList then decide (compareBytes x.sensor.data.toList y.sensor.data.toList < 0) else decide (compareBytes R[x.rule].name.data.toList R[y.rule].name.data.toList < 0) := by
    unfold enLess
    simp [List.getD, hx, hy]
  generalize R[x.rule].name = n1 at *
  generalize R[y.rule].name = n2 at *
  have hrl : rz < W.heap.size := World.block_lt_of_cell? W _ d1
  have HL1 : Hid (∀ V, Calls Try.prog 91 #[.string n1, .string n2] V fun e w' => e = .returned (.bool (decide (compareBytes n1.data.toList n2.data.toList < 0))) ∧ Below V.heap.size V w') := fun V => zzless_any n1 n2 V hn1 hn2
  have HL2 : Hid (∀ V, Calls Try.prog 91 #[.string x.sensor, .string y.sensor] V fun e w' => e = .returned (.bool (decide (compareBytes x.sensor.data.toList y.sensor.data.toList < 0))) ∧ Below V.heap.size V w') := fun V => zzless_any x.sensor y.sensor V sx sy
  have HLE : Hid (enLess R x y = if n1.toList == n2.toList then decide (compareBytes x.sensor.data.toList y.sensor.data.toList < 0) else decide (compareBytes n1.data.toList n2.data.toList < 0)) := hless
  clear hless hR hns hn1 hn2
  simp only [enCells]
  cases hn : (n1.toList == n2.toList)
  · have hn' : ¬ n1.toList = n2.toList := by simpa using hn
    have hL : Hid (enLess R x y = decide (compareBytes n1.data.toList n2.data.toList < 0)) := by
      show _ = _
      rw [HLE.out, hn]; rfl
    go_enter Try.func80, Try.ntmps80
    go_wp2_with fail
    go_quiet (fail)
    go_wp2_with fail
    generalize hWQ : World.drewN _ _ = WQ
    have hB : Below W.heap.size W WQ := by rw [← hWQ]; exact below_drewN (((Below.refl _ _).alloc (Nat.le_refl _) _).alloc (by simp) _) _
    have q0 : WQ.cell? ⟨W.heap.size, 0, none⟩ = some (.int .i64 x.rule) := by
      rw [← hWQ]
      show ((W.alloc _).alloc _).cell? _ = _
      rw [World.cell?_alloc_lt _ _ _ (by simp)]
      unfold World.cell?; rw [heap_alloc_new]; rfl
    have q1 : WQ.cell? ⟨W.heap.size + 1, 0, none⟩ = some (.int .i64 y.rule) := by
      rw [← hWQ]
      show ((W.alloc _).alloc _).cell? _ = _
      unfold World.cell?
      have e : (W.alloc (.cells #[.int .i64 x.rule, .string x.sensor, .int .i64 x.src, .string x.sev] 148)).heap.size = W.heap.size + 1 := by simp
      rw [← e, heap_alloc_new]; rfl
    have HS : Hid (S80 rz W.heap.size (W.heap.size + 1) x.rule y.rule n1 n2 WQ) := ⟨q0, q1, (hB.cell hrl).trans d1, (hB.cell hrl).trans d2⟩
    clear hWQ q0 q1
    refine wp_region_held_drew (S := S80 rz W.heap.size (W.heap.size + 1) x.rule y.rule n1 n2) (by kernel_rfl) (HS.out.kept ⟨rfl, rfl, rfl, Nat.le_refl _, fun _ _ => rfl⟩) (fun hHeld => ?_)
    refine wpAnyH_take (i := 0) (v := ?_) rfl (by kernel_rfl) (by kernel_rfl) (by kernel_rfl) (fun _ _ _ h => h) (Or.inl ⟨by rfl, ?_⟩) hHeld ?_
    rotate_left
    · intro w0 hSw; (try dsimp only at hSw); obtain ⟨s0, s1, s2, s3⟩ := hSw; go_simp <;> with_reducible rfl
    try simp only [Act.put, List.getElem_toArray, List.getElem_cons_zero, List.getElem_cons_succ, List.setIfInBounds_toArray, List.set_cons_zero, List.set_cons_succ]
    refine wpAnyH_take (i := 1) (v := ?_) rfl (by kernel_rfl) (by kernel_rfl) (by kernel_rfl) (fun _ _ _ h => h) (Or.inl ⟨by rfl, ?_⟩) hHeld ?_
    rotate_left
    · intro w0 hSw; (try dsimp only at hSw); obtain ⟨s0, s1, s2, s3⟩ := hSw; go_simp <;> with_reducible rfl
    try simp only [Act.put, List.getElem_toArray, List.getElem_cons_zero, List.getElem_cons_succ, List.setIfInBounds_toArray, List.set_cons_zero, List.set_cons_succ]
    refine wpAnyH_take (i := 2) (v := ?_) rfl (by kernel_rfl) (by kernel_rfl) (by kernel_rfl) (fun _ _ _ h => h) (Or.inl ⟨by rfl, ?_⟩) hHeld ?_
    rotate_left
    · intro w0 hSw; (try dsimp only at hSw); obtain ⟨s0, s1, s2, s3⟩ := hSw; go_simp <;> with_reducible rfl
    try simp only [Act.put, List.getElem_toArray, List.getElem_cons_zero, List.getElem_cons_succ, List.setIfInBounds_toArray, List.set_cons_zero, List.set_cons_succ]
    refine wpAnyH_take (i := 3) (v := ?_) rfl (by kernel_rfl) (by kernel_rfl) (by kernel_rfl) (fun _ _ _ h => h) (Or.inl ⟨by rfl, ?_⟩) hHeld ?_
    rotate_left
    · intro w0 hSw; (try dsimp only at hSw); obtain ⟨s0, s1, s2, s3⟩ := hSw; go_simp <;> with_reducible rfl
    try simp only [Act.put, List.getElem_toArray, List.getElem_cons_zero, List.getElem_cons_succ, List.setIfInBounds_toArray, List.set_cons_zero, List.set_cons_succ]
    refine wpAnyH_take (i := 4) (v := ?_) rfl (by kernel_rfl) (by kernel_rfl) (by kernel_rfl) (fun _ _ _ h => h) (Or.inl ⟨by rfl, ?_⟩) hHeld ?_
    rotate_left
    · intro w0 hSw; (try dsimp only at hSw); obtain ⟨s0, s1, s2, s3⟩ := hSw; go_simp <;> with_reducible rfl
    try simp only [Act.put, List.getElem_toArray, List.getElem_cons_zero, List.getElem_cons_succ, List.setIfInBounds_toArray, List.set_cons_zero, List.set_cons_succ]
    refine wpAnyH_take (i := 5) (v := ?_) rfl (by kernel_rfl) (by kernel_rfl) (by kernel_rfl) (fun _ _ _ h => h) (Or.inl ⟨by rfl, ?_⟩) hHeld ?_
    rotate_left
    · intro w0 hSw; (try dsimp only at hSw); obtain ⟨s0, s1, s2, s3⟩ := hSw; go_simp <;> with_reducible rfl
    try simp only [Act.put, List.getElem_toArray, List.getElem_cons_zero, List.getElem_cons_succ, List.setIfInBounds_toArray, List.set_cons_zero, List.set_cons_succ]
    refine wpAnyH_take (i := 6) (v := ?_) rfl (by kernel_rfl) (by kernel_rfl) (by kernel_rfl) (fun _ _ _ h => h) (Or.inl ⟨by rfl, ?_⟩) hHeld ?_
    rotate_left
    · intro w0 hSw; (try dsimp only at hSw); obtain ⟨s0, s1, s2, s3⟩ := hSw; go_simp <;> with_reducible rfl
    try simp only [Act.put, List.getElem_toArray, List.getElem_cons_zero, List.getElem_cons_succ, List.setIfInBounds_toArray, List.set_cons_zero, List.set_cons_succ]
    refine wpAnyH_take (i := 7) (v := ?_) rfl (by kernel_rfl) (by kernel_rfl) (by kernel_rfl) (fun _ _ _ h => h) (Or.inl ⟨by rfl, ?_⟩) hHeld ?_
    rotate_left
    · intro w0 hSw; (try dsimp only at hSw); obtain ⟨s0, s1, s2, s3⟩ := hSw; go_simp <;> with_reducible rfl
    try simp only [Act.put, List.getElem_toArray, List.getElem_cons_zero, List.getElem_cons_succ, List.setIfInBounds_toArray, List.set_cons_zero, List.set_cons_succ]
    refine wpAnyH_take (i := 8) (v := ?_) rfl (by kernel_rfl) (by kernel_rfl) (by kernel_rfl) (fun _ _ _ h => h) (Or.inl ⟨by rfl, ?_⟩) hHeld ?_
    rotate_left
    · intro w0 hSw; (try dsimp only at hSw); obtain ⟨s0, s1, s2, s3⟩ := hSw; go_simp <;> with_reducible rfl
    try simp only [Act.put, List.getElem_toArray, List.getElem_cons_zero, List.getElem_cons_succ, List.setIfInBounds_toArray, List.set_cons_zero, List.set_cons_succ]
    refine wpAnyH_take (i := 9) (v := ?_) rfl (by kernel_rfl) (by kernel_rfl) (by kernel_rfl) (fun _ _ _ h => h) (Or.inl ⟨by rfl, ?_⟩) hHeld ?_
    rotate_left
    · intro w0 hSw; (try dsimp only at hSw); obtain ⟨s0, s1, s2, s3⟩ := hSw; go_simp <;> with_reducible rfl
    try simp only [Act.put, List.getElem_toArray, List.getElem_cons_zero, List.getElem_cons_succ, List.setIfInBounds_toArray, List.set_cons_zero, List.set_cons_succ]
    refine wpAnyH_take (i := 10) (v := ?_) rfl (by kernel_rfl) (by kernel_rfl) (by kernel_rfl) (fun _ _ _ h => h) (Or.inl ⟨by rfl, ?_⟩) hHeld ?_
    rotate_left
    · intro w0 hSw; (try dsimp only at hSw); obtain ⟨s0, s1, s2, s3⟩ := hSw; go_simp <;> with_reducible rfl
    try simp only [Act.put, List.getElem_toArray, List.getElem_cons_zero, List.getElem_cons_succ, List.setIfInBounds_toArray, List.set_cons_zero, List.set_cons_succ]
    refine wpAnyH_take (i := 11) (v := ?_) rfl (by kernel_rfl) (by kernel_rfl) (by kernel_rfl) (fun _ _ _ h => h) (Or.inl ⟨by rfl, ?_⟩) hHeld ?_
    rotate_left
    · intro w0 hSw; (try dsimp only at hSw); obtain ⟨s0, s1, s2, s3⟩ := hSw; go_simp <;> with_reducible rfl
    try simp only [Act.put, List.getElem_toArray, List.getElem_cons_zero, List.getElem_cons_succ, List.setIfInBounds_toArray, List.set_cons_zero, List.set_cons_succ]
    refine wpAnyH_ready (rs := [12]) (by kernel_rfl) (by simp) ?_
    refine AllReadyH.cons rfl (fun K0 hK0 => ?_) AllReadyH.nil
    rw [if_pos (by simp [Region.wanted])]
    go_simp
    refine (HL1.out _).mono ?_
    rintro e c0 ⟨rfl, bc0⟩
    have bc0' : Below WQ.heap.size WQ c0 := ⟨bc0.os, bc0.tape, bc0.output, bc0.size, bc0.block⟩
    refine hK0.out _ _ (HS.out.kept bc0') (fun hHeld => ?_)
    clear hK0 K0
    try simp only [Act.put, List.getElem_toArray, List.getElem_cons_zero, List.getElem_cons_succ, List.setIfInBounds_toArray, List.set_cons_zero, List.set_cons_succ]
    refine wpAnyH_take (i := 13) (v := ?_) rfl (by kernel_rfl) (by kernel_rfl) (by kernel_rfl) (fun _ _ _ h => h) (Or.inl ⟨by rfl, ?_⟩) hHeld ?_
    rotate_left
    · intro w0 hSw; (try dsimp only at hSw); obtain ⟨s0, s1, s2, s3⟩ := hSw; go_simp <;> with_reducible rfl
    try simp only [Act.put, List.getElem_toArray, List.getElem_cons_zero, List.getElem_cons_succ, List.setIfInBounds_toArray, List.set_cons_zero, List.set_cons_succ]
    refine wpAnyH_done (by kernel_rfl) ?_ _
    go_wp2_with fail
    go_ret
    refine ⟨?_, Below.step hB bc0'⟩
    rw [hL.out]
    rfl
  · have hn' : n1.toList = n2.toList := by simpa using hn
    have hL : Hid (enLess R x y = decide (compareBytes x.sensor.data.toList y.sensor.data.toList < 0)) := by
      show _ = _
      rw [HLE.out, hn]; rfl
    go_enter Try.func80, Try.ntmps80
    go_wp2_with fail
    go_quiet (fail)
    go_wp2_with fail
    refine Calls.mono (HL2.out _) ?_
    rintro e c0 ⟨rfl, bc0⟩
    go_wp2_with fail
    go_ret
    refine ⟨?_, ?_⟩
    · rw [hL.out]; rfl
    · exact Below.step (below_drewN (((Below.refl _ _).alloc (Nat.le_refl _) _).alloc (by simp) _) _) bc0
end Go.Proofs.Qxb6605676a.Kz
