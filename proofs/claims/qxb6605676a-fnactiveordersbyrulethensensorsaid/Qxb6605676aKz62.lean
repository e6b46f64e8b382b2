import Derived.Test.Qxb6605676aKz61
namespace Go.Proofs.Qxb6605676a.Kz
set_option linter.unusedVariables false
set_option linter.unusedSimpArgs false
open Go.RowKit Go.Proofs.Qxb6605676a.Mp Go.Proofs.Qxb6605676a.Tm Go.Proofs.Qxb6605676a.En

set_option maxHeartbeats 3200000 in
set_option maxRecDepth 100000 in
theorem zztwo_any (n0 m0 s0 n1 m1 s1 : ByteArray) (w : World) :
    Calls Try.prog 21 #[.string n0, .string m0, .string s0, .string n1, .string m1, .string s1] w fun e w' => ∃ mb rb l0 l1 : Nat, e = .returned (.pointer (some ⟨mb + 5, 0, none⟩)) ∧ Below w.heap.size w w' ∧
      Eng w' mb rb 2 (ruleCells n0 m0 l0 1 0 ++ ruleCells n1 m1 l1 1 0) [] [] [] [] [] ∧ LevelsAt w' l0 [s0] ∧ LevelsAt w' l1 [s1] ∧ w.heap.size ≤ rb ∧ w.heap.size ≤ l0 ∧ w.heap.size ≤ l1 ∧ l0 < mb ∧ l1 < mb := by
  go_enter Try.func21, Try.ntmps21
  go_upto_region 1 with fail
  refine wp_region_any (by kernel_rfl) ?_
  refine wpAny_take (i := 0) (v := ?_) rfl (by kernel_rfl) (by kernel_rfl) (by kernel_rfl) (fun _ _ _ h => h) (Or.inl ⟨by rfl, ?_⟩) ?_
  rotate_left
  · intro w0; go_simp <;> with_reducible rfl
  try simp only [Act.put, List.getElem_toArray, List.getElem_cons_zero, List.getElem_cons_succ, List.setIfInBounds_toArray, List.set_cons_zero, List.set_cons_succ]
  refine wpAny_take (i := 1) (v := ?_) rfl (by kernel_rfl) (by kernel_rfl) (by kernel_rfl) (fun _ _ _ h => h) (Or.inl ⟨by rfl, ?_⟩) ?_
  rotate_left
  · intro w0; go_simp <;> with_reducible rfl
  try simp only [Act.put, List.getElem_toArray, List.getElem_cons_zero, List.getElem_cons_succ, List.setIfInBounds_toArray, List.set_cons_zero, List.set_cons_succ]
  refine wpAny_take (i := 2) (v := ?_) rfl (by kernel_rfl) (by kernel_rfl) (by kernel_rfl) (fun _ _ _ h => h) (Or.inl ⟨by rfl, ?_⟩) ?_
  rotate_left
  · intro w0; go_simp <;> with_reducible rfl
  try simp only [Act.put, List.getElem_toArray, List.getElem_cons_zero, List.getElem_cons_succ, List.setIfInBounds_toArray, List.set_cons_zero, List.set_cons_succ]
  refine wpAny_take (i := 3) (v := ?_) rfl (by kernel_rfl) (by kernel_rfl) (by kernel_rfl) (fun _ _ _ h => h) (Or.inl ⟨by rfl, ?_⟩) ?_
  rotate_left
  · intro w0; go_simp <;> with_reducible rfl
  try simp only [Act.put, List.getElem_toArray, List.getElem_cons_zero, List.getElem_cons_succ, List.setIfInBounds_toArray, List.set_cons_zero, List.set_cons_succ]
  refine wpAny_take (i := 6) (v := ?_) rfl (by kernel_rfl) (by kernel_rfl) (by kernel_rfl) (fun _ _ _ h => h) (Or.inl ⟨by rfl, ?_⟩) ?_
  rotate_left
  · intro w0; go_simp <;> with_reducible rfl
  try simp only [Act.put, List.getElem_toArray, List.getElem_cons_zero, List.getElem_cons_succ, List.setIfInBounds_toArray, List.set_cons_zero, List.set_cons_succ]
  refine wpAny_take (i := 7) (v := ?_) rfl (by kernel_rfl) (by kernel_rfl) (by kernel_rfl) (fun _ _ _ h => h) (Or.inl ⟨by rfl, ?_⟩) ?_
  rotate_left
  · intro w0; go_simp <;> with_reducible rfl
  try simp only [Act.put, List.getElem_toArray, List.getElem_cons_zero, List.getElem_cons_succ, List.setIfInBounds_toArray, List.set_cons_zero, List.set_cons_succ]
  refine wpAny_take (i := 8) (v := ?_) rfl (by kernel_rfl) (by kernel_rfl) (by kernel_rfl) (fun _ _ _ h => h) (Or.inl ⟨by rfl, ?_⟩) ?_
  rotate_left
  · intro w0; go_simp <;> with_reducible rfl
  try simp only [Act.put, List.getElem_toArray, List.getElem_cons_zero, List.getElem_cons_succ, List.setIfInBounds_toArray, List.set_cons_zero, List.set_cons_succ]
  refine wpAny_take (i := 9) (v := ?_) rfl (by kernel_rfl) (by kernel_rfl) (by kernel_rfl) (fun _ _ _ h => h) (Or.inl ⟨by rfl, ?_⟩) ?_
  rotate_left
  · intro w0; go_simp <;> with_reducible rfl
  try simp only [Act.put, List.getElem_toArray, List.getElem_cons_zero, List.getElem_cons_succ, List.setIfInBounds_toArray, List.set_cons_zero, List.set_cons_succ]
  refine wpAny_take (i := 14) (v := ?_) rfl (by kernel_rfl) (by kernel_rfl) (by kernel_rfl) (fun _ _ _ h => h) (Or.inl ⟨by rfl, ?_⟩) ?_
  rotate_left
  · intro w0; go_simp <;> with_reducible rfl
  try simp only [Act.put, List.getElem_toArray, List.getElem_cons_zero, List.getElem_cons_succ, List.setIfInBounds_toArray, List.set_cons_zero, List.set_cons_succ]
  refine wpAny_take (i := 17) (v := ?_) rfl (by kernel_rfl) (by kernel_rfl) (by kernel_rfl) (fun _ _ _ h => h) (Or.inl ⟨by rfl, ?_⟩) ?_
  rotate_left
  · intro w0; go_simp <;> with_reducible rfl
  try simp only [Act.put, List.getElem_toArray, List.getElem_cons_zero, List.getElem_cons_succ, List.setIfInBounds_toArray, List.set_cons_zero, List.set_cons_succ]
  change wpAny Try.prog .any ops21 _ 13 #[true, true, true, true, false, false, true, true, true, true, false, false, false, false, true, false, false, true, false, false, false, false, false] ⟨#[.string n0, .string m0, .string s0, .string n1, .string m1, .string s1, undef, undef, undef, undef, undef, undef, .pointer none, .string n0, .string m0, .string s0, lev21 s0, undef, undef, .string n1, .string m1, .string s1, lev21 s1, undef, undef, undef, undef, .string m0, undef, .string m1, undef, undef, undef], []⟩ w.drew
  refine wpAny_until (I := I21 w n0 m0 s0 n1 m1 s1) ?_ 13 _ _ _ (by kernel_rfl) ⟨false, false, false, false, false, false, false, false, false, false, false, undef, undef, undef, undef, undef, undef, undef, undef, undef, rfl, rfl, ⟨(Below.refl _ _).drew, nofun, nofun, nofun, nofun, nofun, nofun, nofun, nofun, nofun⟩⟩
  intro l a W hI
  obtain ⟨b4, b5, b10, b11, b12, b13, b15, b16, b18, b19, b20, v17, v18, v23, v24, v25, v26, v28, v30, v31, rfl, rfl, hF⟩ := hI
  cases hall : (b4 && b5 && b10 && b11 && b12 && b13 && b15 && b16 && b18 && b19 && b20) with
  | false =>
    refine Or.inl ⟨some21 b4 b5 b10 b11 b12 b13 b15 b16 b18 b19 b20 hall, fun i hi => ?_⟩
    have hlt := ready21 _ i hi
    have hun := (mem_ready.1 hi).1
    match i, hlt, hi, hun with
    | 0, _, _, hun => cases (show true = false from hun)
    | 1, _, _, hun => cases (show true = false from hun)
    | 2, _, _, hun => cases (show true = false from hun)
    | 3, _, _, hun => cases (show true = false from hun)
    | 4, _, hi, hun =>
      have e : b4 = false := hun
      clear hi hun hall
      subst e
      exact s21_4 _ w W n0 m0 s0 n1 m1 s1 b5 b10 b11 b12 b13 b15 b16 b18 b19 b20 v17 v18 v23 v24 v25 v26 v28 v30 v31 hF
    | 5, _, hi, hun =>
      have e : b5 = false := hun
      have d4 : b4 = true := dep21 _ 5 4 hi (by kernel_rfl)
      clear hi hun hall
      subst e d4
      exact s21_5 _ w W n0 m0 s0 n1 m1 s1 b10 b11 b12 b13 b15 b16 b18 b19 b20 v17 v18 v23 v24 v25 v26 v28 v30 v31 hF
    | 6, _, _, hun => cases (show true = false from hun)
    | 7, _, _, hun => cases (show true = false from hun)
    | 8, _, _, hun => cases (show true = false from hun)
    | 9, _, _, hun => cases (show true = false from hun)
    | 10, _, hi, hun =>
      have e : b10 = false := hun
      clear hi hun hall
      subst e
      exact s21_10 _ w W n0 m0 s0 n1 m1 s1 b4 b5 b11 b12 b13 b15 b16 b18 b19 b20 v17 v18 v23 v24 v25 v26 v28 v30 v31 hF
    | 11, _, hi, hun =>
      have e : b11 = false := hun
      have d10 : b10 = true := dep21 _ 11 10 hi (by kernel_rfl)
      clear hi hun hall
      subst e d10
      exact s21_11 _ w W n0 m0 s0 n1 m1 s1 b4 b5 b12 b13 b15 b16 b18 b19 b20 v17 v18 v23 v24 v25 v26 v28 v30 v31 hF
    | 12, _, hi, hun =>
      have e : b12 = false := hun
      have d5 : b5 = true := dep21 _ 12 5 hi (by kernel_rfl)
      have d11 : b11 = true := dep21 _ 12 11 hi (by kernel_rfl)
      clear hi hun hall
      subst e d5 d11
      exact s21_12 _ w W n0 m0 s0 n1 m1 s1 b4 b10 b13 b15 b16 b18 b19 b20 v17 v18 v23 v24 v25 v26 v28 v30 v31 hF
    | 13, _, hi, hun =>
      have e : b13 = false := hun
      clear hi hun hall
      subst e
      exact s21_13 _ w W n0 m0 s0 n1 m1 s1 b4 b5 b10 b11 b12 b15 b16 b18 b19 b20 v17 v18 v23 v24 v25 v26 v28 v30 v31 hF
    | 14, _, _, hun => cases (show true = false from hun)
    | 15, _, hi, hun =>
      have e : b15 = false := hun
      clear hi hun hall
      subst e
      exact s21_15 _ w W n0 m0 s0 n1 m1 s1 b4 b5 b10 b11 b12 b13 b16 b18 b19 b20 v17 v18 v23 v24 v25 v26 v28 v30 v31 hF
    | 16, _, hi, hun =>
      have e : b16 = false := hun
      have d13 : b13 = true := dep21 _ 16 13 hi (by kernel_rfl)
      have d15 : b15 = true := dep21 _ 16 15 hi (by kernel_rfl)
      clear hi hun hall
      subst e d13 d15
      exact s21_16 _ w W n0 m0 s0 n1 m1 s1 b4 b5 b10 b11 b12 b18 b19 b20 v17 v18 v23 v24 v25 v26 v28 v30 v31 hF
    | 17, _, _, hun => cases (show true = false from hun)
    | 18, _, hi, hun =>
      have e : b18 = false := hun
      clear hi hun hall
      subst e
      exact s21_18 _ w W n0 m0 s0 n1 m1 s1 b4 b5 b10 b11 b12 b13 b15 b16 b19 b20 v17 v18 v23 v24 v25 v26 v28 v30 v31 hF
    | 19, _, hi, hun =>
      have e : b19 = false := hun
      have d13 : b13 = true := dep21 _ 19 13 hi (by kernel_rfl)
      have d18 : b18 = true := dep21 _ 19 18 hi (by kernel_rfl)
      clear hi hun hall
      subst e d13 d18
      exact s21_19 _ w W n0 m0 s0 n1 m1 s1 b4 b5 b10 b11 b12 b15 b16 b20 v17 v18 v23 v24 v25 v26 v28 v30 v31 hF
    | 20, _, hi, hun =>
      have e : b20 = false := hun
      have d13 : b13 = true := dep21 _ 20 13 hi (by kernel_rfl)
      have d15 : b15 = true := dep21 _ 20 15 hi (by kernel_rfl)
      have d16 : b16 = true := dep21 _ 20 16 hi (by kernel_rfl)
      have d18 : b18 = true := dep21 _ 20 18 hi (by kernel_rfl)
      have d19 : b19 = true := dep21 _ 20 19 hi (by kernel_rfl)
      clear hi hun hall
      subst e d13 d15 d16 d18 d19
      exact s21_20 _ w W n0 m0 s0 n1 m1 s1 b4 b5 b10 b11 b12 v17 v18 v23 v24 v25 v26 v28 v30 v31 hF
    | 21, _, hi, hun =>
      have d12 : b12 = true := dep21 _ 21 12 hi (by kernel_rfl)
      have d20 : b20 = true := dep21 _ 21 20 hi (by kernel_rfl)
      obtain ⟨e5, e11, _⟩ := hF.h12 d12
      obtain ⟨e4, _⟩ := hF.h5 e5
      obtain ⟨e10, _⟩ := hF.h11 e11
      obtain ⟨e13, e15, e16, e18, e19, _⟩ := hF.h20 d20
      subst d12 d20 e5 e11 e4 e10 e13 e15 e16 e18 e19
      cases hall
    | 22, _, hi, hun =>
      have d21 : false = true := dep21 _ 22 21 hi (by kernel_rfl)
      cases d21
    | n + 23, hlt, _, _ => omega
  | true =>
    simp only [Bool.and_eq_true] at hall
    obtain ⟨⟨⟨⟨⟨⟨⟨⟨⟨⟨rfl, rfl⟩, rfl⟩, rfl⟩, rfl⟩, rfl⟩, rfl⟩, rfl⟩, rfl⟩, rfl⟩, rfl⟩ := hall
    refine Or.inr ⟨2, by kernel_rfl, ?_⟩
    obtain ⟨l0, hl0, rfl, c0⟩ := hF.h4 rfl
    obtain ⟨l1, hl1, rfl, c1⟩ := hF.h10 rfl
    obtain ⟨_, _, rb, hrb, rfl, c2⟩ := hF.h12 rfl
    obtain ⟨bm, hbm, rfl, L, hL⟩ := hF.h13 rfl
    obtain ⟨_, _, _, _, _, rfl⟩ := hF.h20 rfl
    have HL : Hid (Below w.heap.size w W) := hF.low
    have C0 : Hid (W.heap[l0]? = some (.cells #[.string s0, .string ⟨#[]⟩, .float .f64 0, .float .f64 0] 131)) := c0
    have C1 : Hid (W.heap[l1]? = some (.cells #[.string s1, .string ⟨#[]⟩, .float .f64 0, .float .f64 0] 131)) := c1
    have C2 : Hid (W.heap[rb]? = some (.cells #[.string n0, .string m0, .slice (some ⟨l0, 0, none⟩) 1 1, .int .i64 0, .int .i64 0, .int .i64 0, .string n1, .string m1, .slice (some ⟨l1, 0, none⟩) 1 1, .int .i64 0, .int .i64 0, .int .i64 0] 124)) := c2
    clear hF hL c0 c1 c2
    refine wpAny_all (rs := [21]) (by kernel_rfl) (by simp) (fun i hi => ?_)
    obtain rfl : i = 21 := by simpa using hi
    delta ops21 Try.f21
    dsimp only
    refine wpOp_step rfl (fun K hK0 => ?_)
    have hK : Hid _ := hK0
    clear hK0
    rw [if_pos (by first | rfl | simp [Region.wanted])]
    go_simp
    refine Calls.mono (zzengine_any (some ⟨rb, 0, none⟩) 2 2 (some bm) W) ?_
    rintro e w1 ⟨rfl, hb, hz, he, hm⟩
    refine hK.out _ _ ?_
    refine wpAny_take (i := 22) (v := ?_) rfl (by kernel_rfl) (by kernel_rfl) (by kernel_rfl) (fun _ _ _ h => h) (Or.inl ⟨by rfl, ?_⟩) ?_
    rotate_left
    · intro w0; go_simp <;> with_reducible rfl
    try simp only [Act.put, List.getElem_toArray, List.getElem_cons_zero, List.getElem_cons_succ, List.setIfInBounds_toArray, List.set_cons_zero, List.set_cons_succ]
    refine wpAny_done (by kernel_rfl) ?_ _
    have HZ : Hid (w1.heap.size = W.heap.size + 6) := hz
    clear hK K hi hz
    go_wp2_with fail
    go_ret
    have k0 : l0 < W.heap.size := (Array.getElem?_eq_some_iff.1 C0.out).1
    have k1 : l1 < W.heap.size := (Array.getElem?_eq_some_iff.1 C1.out).1
    have k2 : rb < W.heap.size := (Array.getElem?_eq_some_iff.1 C2.out).1
    have B0 : w1.heap[l0]? = _ := (hb.block _ k0).trans C0.out
    have B1 : w1.heap[l1]? = _ := (hb.block _ k1).trans C1.out
    have hl : ∀ (lb : Nat) (s : ByteArray), w1.heap[lb]? = some (.cells #[.string s, .string ⟨#[]⟩, .float .f64 0, .float .f64 0] 131) → LevelsAt w1 lb [s] := by
      intro lb s h j x hx
      cases j with
      | succ j => simp at hx
      | zero =>
        simp at hx
        subst hx
        refine ⟨?_, ?_, ?_, ?_⟩ <;> simp [World.cell?, h]
    refine ⟨W.heap.size, rfl, Below.step HL.out hb, rb, l0, l1, ⟨k2, ⟨_, he⟩, (hb.block _ k2).trans C2.out, map_made (hm 0 (by omega)), map_made (hm 1 (by omega)), map_made (hm 2 (by omega)), map_made (hm 3 (by omega)), map_made (hm 4 (by omega))⟩, hl _ _ B0, hl _ _ B1, hrb, hl0, hl1, k0, k1⟩
end Go.Proofs.Qxb6605676a.Kz
