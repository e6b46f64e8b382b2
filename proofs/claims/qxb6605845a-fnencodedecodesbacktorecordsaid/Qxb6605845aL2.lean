import Derived.Test.Qxb6605845aS25
import Derived.Deep.RegionHeld3
namespace Go.Proofs.Qxb6605845a.Ec
set_option linter.unusedVariables false
set_option linter.unusedSimpArgs false
open Go.RowKit

set_option maxHeartbeats 1000000 in
set_option maxRecDepth 100000 in
theorem law_2 (site : ByteArray) (node : Int) (idSeq : Nat) (P : List Int) (ticket : Nat) (RT RK WT WK : List ByteArray) (WV : List (Option (List UInt8))) (seq : Nat) (ap a1 a2 a3 a4 a5 : Option Addr) (cp c1 c2 c3 c4 c5 : Nat) (w : World)
    (hp : IArg w ap P) (h1 : SArg w a1 RT) (h2 : SArg w a2 RK) (h3 : SArg w a3 WT) (h4 : SArg w a4 WK) (h5 : VArg w a5 WV)
    (np : ap = none → cp = 0) (n1 : a1 = none → c1 = 0) (n2 : a2 = none → c2 = 0) (n3 : a3 = none → c3 = 0) (n4 : a4 = none → c4 = 0) (n5 : a5 = none → c5 = 0)
    (ls : site.size < 2 ^ 63) (lp : P.length < 2 ^ 63) (l1 : RT.length < 2 ^ 63) (l2 : RK.length < 2 ^ 63) (l3 : WT.length < 2 ^ 63) (l4 : WK.length < 2 ^ 63) (l5 : WV.length < 2 ^ 63)
    (i1 : idSeq < 2 ^ 64) (i2 : ticket < 2 ^ 64) (i3 : seq < 2 ^ 64) (q1 : ¬ 65536 < P.length) (q2 : ¬ 1048576 < site.size) :
    Calls Try.prog 5 #[.int .u8 2, .string site, .int .i64 node, .int .u64 idSeq, .slice ap P.length cp, .int .u64 ticket, .slice a1 RT.length c1, .slice a2 RK.length c2, .slice a3 WT.length c3, .slice a4 WK.length c4, .slice a5 WV.length c5, .int .u64 seq] w fun e w' => e = .returned (.bool true) ∧ Below w.heap.size w w' := by
  have H18 : Hid (Calls Try.prog 18 #[.int .u8 2, .string site, .int .i64 node, .int .u64 idSeq, .slice ap P.length cp, .int .u64 ticket, .slice a1 RT.length c1, .slice a2 RK.length c2, .slice a3 WT.length c3, .slice a4 WK.length c4, .slice a5 WV.length c5, .int .u64 seq] w fun e w' => RB e ∧ w = w') := zzbytes18 2 site node idSeq ap P.length cp ticket RT RK WT WK WV a1 a2 a3 a4 a5 c1 c2 c3 c4 c5 seq w h1 h2 h3 h4 h5 (by omega) (by omega) (by omega) (by omega) (by omega) (by omega) (by omega)
  have HS1 : Hid (Calls Try.prog 8 #[.slice a1 RT.length c1] w _) := zzstringsBytes RT a1 c1 w h1 l1
  have HS2 : Hid (Calls Try.prog 8 #[.slice a2 RK.length c2] w _) := zzstringsBytes RK a2 c2 w h2 l2
  have HS3 : Hid (Calls Try.prog 8 #[.slice a3 WT.length c3] w _) := zzstringsBytes WT a3 c3 w h3 l3
  have HS4 : Hid (Calls Try.prog 8 #[.slice a4 WK.length c4] w _) := zzstringsBytes WK a4 c4 w h4 l4
  have HS5 : Hid (Calls Try.prog 9 #[.slice a5 WV.length c5] w _) := zzbytesBytes WV a5 c5 w h5 l5
  go_enter Try.func5, Try.ntmps5
  go_upto_region 7 with (first
    | (go_at_call 18; refine Calls.mono H18.out ?_; rintro _ _ ⟨⟨bb, rfl⟩, rfl⟩; cases bb)
    | (go_at_call_of 8 (Value.slice a1 RT.length c1); refine Calls.mono HS1.out ?_; rintro _ _ ⟨m1, rfl, p1, f1, rfl⟩)
    | (go_at_call_of 8 (Value.slice a2 RK.length c2); refine Calls.mono HS2.out ?_; rintro _ _ ⟨m2, rfl, p2, f2, rfl⟩)
    | (go_at_call_of 8 (Value.slice a3 WT.length c3); refine Calls.mono HS3.out ?_; rintro _ _ ⟨m3, rfl, p3, f3, rfl⟩)
    | (go_at_call_of 8 (Value.slice a4 WK.length c4); refine Calls.mono HS4.out ?_; rintro _ _ ⟨m4, rfl, p4, f4, rfl⟩)
    | (go_at_call 9; refine Calls.mono HS5.out ?_; rintro _ _ ⟨m5, rfl, p5, f5, rfl⟩))
  any_goals (go_ret; exact ⟨rfl, Below.refl _ _⟩)
  rename_i hTot _ _
  have hT1 : site.size + 8 * P.length + m1 + m2 + m3 + m4 + m5 ≤ 1048576 := by omega
  have r1 := f1 (by omega)
  have r2 := f2 (by omega)
  have r3 := f3 (by omega)
  have r4 := f4 (by omega)
  have r5 := f5 (by omega)
  have ok : RecOk (theRec site node idSeq P ticket RT RK WT WK WV seq) := theRec_ok (by omega) (by omega) (by omega) (by omega) (by omega) (by omega) (by omega) i1 i2 i3
  have zV : ∀ (j : Nat) (x : Option (List UInt8)), WV[j]? = some x → bsz x ≤ 1048576 := fun j x hx => Nat.le_trans (sz_at bsz WV j x hx) (by omega)
  have HP : Hid (∀ W, Below w.heap.size w W → Calls Try.prog 19 #[.slice ap P.length cp] W fun e w' => ∃ ao' c', e = .returned (.slice ao' P.length c') ∧ IVal w' (.slice ao' P.length c') P ∧ NewAt W w' ao' ∧ Below W.heap.size W w') := fun W hW => cloneInts P ap cp W (hp.below hW) np (by omega)
  have HC1 : Hid (∀ W, Below w.heap.size w W → Calls Try.prog 10 #[.slice a1 RT.length c1] W fun e w' => ∃ ao' c', e = .returned (.slice ao' RT.length c') ∧ SArg w' ao' RT ∧ NewAt W w' ao' ∧ Below W.heap.size W w') := fun W hW => cloneStrings RT a1 c1 W (h1.below hW) n1 (by omega)
  have HC2 : Hid (∀ W, Below w.heap.size w W → Calls Try.prog 10 #[.slice a2 RK.length c2] W fun e w' => ∃ ao' c', e = .returned (.slice ao' RK.length c') ∧ SArg w' ao' RK ∧ NewAt W w' ao' ∧ Below W.heap.size W w') := fun W hW => cloneStrings RK a2 c2 W (h2.below hW) n2 (by omega)
  have HC3 : Hid (∀ W, Below w.heap.size w W → Calls Try.prog 10 #[.slice a3 WT.length c3] W fun e w' => ∃ ao' c', e = .returned (.slice ao' WT.length c') ∧ SArg w' ao' WT ∧ NewAt W w' ao' ∧ Below W.heap.size W w') := fun W hW => cloneStrings WT a3 c3 W (h3.below hW) n3 (by omega)
  have HC4 : Hid (∀ W, Below w.heap.size w W → Calls Try.prog 10 #[.slice a4 WK.length c4] W fun e w' => ∃ ao' c', e = .returned (.slice ao' WK.length c') ∧ SArg w' ao' WK ∧ NewAt W w' ao' ∧ Below W.heap.size W w') := fun W hW => cloneStrings WK a4 c4 W (h4.below hW) n4 (by omega)
  have HC5 : Hid (∀ W, Below w.heap.size w W → Calls Try.prog 11 #[.slice a5 WV.length c5] W fun e w' => ∃ ao' c', e = .returned (.slice ao' WV.length c') ∧ NArg w' ao' WV ∧ NewAt W w' ao' ∧ Below W.heap.size W w') := fun W hW => cloneList WV a5 c5 W (h5.below hW) n5 (by omega) zV
  have lR : RT.length ≤ 65536 ∧ RK.length ≤ 65536 ∧ WT.length ≤ 65536 ∧ WK.length ≤ 65536 ∧ WV.length ≤ 65536 ∧ P.length ≤ 65536 := by omega
  obtain ⟨lR1, lR2, lR3, lR4, lR5, lP⟩ := lR
  have lsz : site.size ≤ 1048576 := by omega
  clear H18 HS1 HS2 HS3 HS4 HS5 f1 f2 f3 f4 f5 p1 p2 p3 p4 p5 hTot hT1 r1 r2 r3 r4 r5 zV hp h1 h2 h3 h4 h5 np n1 n2 n3 n4 n5 ls lp l1 l2 l3 l4 l5 q1 q2
  have bw0 : Below w.heap.size w w := Below.refl _ _
  go_upto_region 13 with (first
    | (go_at_call 19; refine Calls.mono (HP.out _ (by assumption)) ?_; rintro _ w1 ⟨pa, pc, rfl, vP, nP, bb1⟩; have bw1 := Below.step (by assumption) bb1)
    | (go_at_call_of 10 (Value.slice a1 RT.length c1); refine Calls.mono (HC1.out _ (by assumption)) ?_; rintro _ w2 ⟨ra, rc, rfl, vRT, nRT, bb2⟩; have bw2 := Below.step (by assumption) bb2)
    | (go_at_call_of 10 (Value.slice a2 RK.length c2); refine Calls.mono (HC2.out _ (by assumption)) ?_; rintro _ w3 ⟨ka, kc, rfl, vRK, nRK, bb3⟩; have bw3 := Below.step (by assumption) bb3)
    | (go_at_call_of 10 (Value.slice a3 WT.length c3); refine Calls.mono (HC3.out _ (by assumption)) ?_; rintro _ w4 ⟨ta, tc, rfl, vWT, nWT, bb4⟩; have bw4 := Below.step (by assumption) bb4)
    | (go_at_call_of 10 (Value.slice a4 WK.length c4); refine Calls.mono (HC4.out _ (by assumption)) ?_; rintro _ w5 ⟨ya, yc, rfl, vWK, nWK, bb5⟩; have bw5 := Below.step (by assumption) bb5)
    | (go_at_call 11; refine Calls.mono (HC5.out _ (by assumption)) ?_; rintro _ w6 ⟨va, vc, rfl, vWV, nWV, bb6⟩; have bw6 := Below.step (by assumption) bb6))
  have e1 := Below.step (Below.step (Below.step (Below.step bb2 bb3) bb4) bb5) bb6
  have e2 := Below.step (Below.step (Below.step bb3 bb4) bb5) bb6
  have e3 := Below.step (Below.step bb4 bb5) bb6
  have e4 := Below.step bb5 bb6
  have vP6 : Hid (IVal w6 (.slice pa P.length pc) P) := IVal.belowB vP e1 (fun a n c e => by injection e with e _ _; exact (nP a e).2)
  have nP6 : Hid (∀ a n c, Value.slice pa P.length pc = .slice (some a) n c → a.block < w6.heap.size) := fun a n c e => by injection e with e _ _; exact Nat.lt_of_lt_of_le (nP a e).2 e1.size
  have vRT6 : Hid (SArg w6 ra RT) := vRT.below e2
  have vRK6 : Hid (SArg w6 ka RK) := vRK.below e3
  have vWT6 : Hid (SArg w6 ta WT) := vWT.below e4
  have vWK6 : Hid (SArg w6 ya WK) := vWK.below bb6
  have vWV6 : Hid (NArg w6 va WV) := vWV
  have BW : Hid (Below w.heap.size w w6) := bw6
  clear HP HC1 HC2 HC3 HC4 HC5 vP vRT vRK vWT vWK vWV nP nRT nRK nWT nWK nWV bb1 bb2 bb3 bb4 bb5 bb6 bw0 bw1 bw2 bw3 bw4 bw5 bw6 e1 e2 e3 e4
  obtain ⟨R, hR⟩ : ∃ R, R = RT.zip RK := ⟨_, rfl⟩
  have hRl : R.length = min RT.length RK.length := by rw [hR, List.length_zip]
  have HZ : Hid (∀ j t q, R[j]? = some (t, q) → RT[j]? = some t ∧ RK[j]? = some q) := fun j t q h => zip2 (by rw [← hR]; exact h)
  have H20 : Hid (∀ W, Calls Try.prog 20 #[.int .i64 RT.length, .int .i64 RK.length] W fun e w' => e = .returned (.int .i64 R.length) ∧ W = w') := fun W => by rw [hRl]; exact zzmin2 _ _ W
  have hRb : R.length ≤ 65536 := by omega
  have hR1 : R.length ≤ RT.length := by omega
  have hR2 : R.length ≤ RK.length := by omega
  have HRe : Hid (R = RT.zip RK) := hR
  clear hRl hR
  obtain ⟨j46, z46, hi46, hz46, hs46, hby46⟩ := info46
  go_wp2_with (first
    | (go_at_call 20; refine Calls.mono (H20.out _) ?_; rintro _ _ ⟨rfl, rfl⟩)
    | (at_make; refine wpList_make_full _ rfl _ _ 44 rfl w6.heap.size 46 j46 z46 2 Try.underlying44 hi46 hz46 hs46 .i64 .i64 _ _ R.length rfl rfl rfl rfl (by rw [hby46]; omega) (by unfold maxLen; omega) (Nat.le_refl _) ?_; intro w7 hown7 hgr7))
  have hB7 : Below w6.heap.size w6 w7 := ⟨hgr7.os, hgr7.tape, hgr7.output, hgr7.size, fun k hk => hgr7.block k hk (by simp)⟩
  obtain ⟨hT7, hS7⟩ := there_of_own hown7
  clear hown7 hgr7 hi46 hz46 hs46 hby46 H20
  go_loopw [27] (fun x wr => ∃ k : Nat, k ≤ R.length ∧ x = .int .i64 k ∧ Below w6.heap.size w6 wr ∧ wr.there w6.heap.size 0 (R.length * 2) ∧ ReadsAt wr w6.heap.size (R.take k) ∧ w6.heap.size < wr.heap.size) (fun x _ => R.length - (intOf x).toNat)
  case atStart => exact ⟨0, Nat.zero_le _, rfl, hB7, hT7, by intro j k hk; simp at hk, hS7⟩
  case round =>
    clear hB7 hT7 hS7
    obtain ⟨k, hk, rfl, hb, ht, hK, hS⟩ := hrel
    by_cases hkl : k < R.length
    · obtain ⟨⟨t, q⟩, hkk⟩ : ∃ p, R[k]? = some p := ⟨R[k], by simp [hkl]⟩
      obtain ⟨z1, z2⟩ := HZ.out k t q hkk
      have x1 : k < RT.length := by omega
      have x2 : k < RK.length := by omega
      have vt := vRT6.out
      have vq := vRK6.out
      rcases vt with rfl | ⟨tb, to', rfl, vt⟩
      · simp at x1
      rcases vq with rfl | ⟨qb, qo, rfl, vq⟩
      · simp at x2
      have s01 := vt k t z1
      have s02 := vq k q z2
      have s1 := (vt.below hb) k t z1
      have s2 := (vq.below hb) k q z2
      clear vt vq z1 z2
      have HT0 : Hid (wr.there w6.heap.size (k * 2) 2) := there_mono ht (by omega) (by omega)
      have HT9 : Hid (wr.there w6.heap.size 0 (R.length * 2)) := ht
      have HK0 : Hid (ReadsAt wr w6.heap.size (R.take k)) := hK
      clear ht hK
      go_upto_region 18 with fail
      refine wp_region_held_drew (S := (fun W => W.cell? ⟨tb, to' + k, none⟩ = some (.string t) ∧ W.cell? ⟨qb, qo + k, none⟩ = some (.string q))) (by kernel_rfl) ?_ (fun hHeld => ?_)
      · exact ⟨s1, s2⟩
      refine wpAnyH_take (i := 0) (v := ?_) rfl (by kernel_rfl) (by kernel_rfl) (by kernel_rfl) (fun _ _ _ h => h) (Or.inl ⟨by rfl, ?_⟩) hHeld ?_
      rotate_left
      · intro w0 hSw; (try dsimp only at hSw); obtain ⟨s1', s2'⟩ := hSw; go_simp <;> with_reducible rfl
      try simp only [Act.put, List.getElem_toArray, List.getElem_cons_zero, List.getElem_cons_succ, List.setIfInBounds_toArray, List.set_cons_zero, List.set_cons_succ]
      refine wpAnyH_take (i := 1) (v := ?_) rfl (by kernel_rfl) (by kernel_rfl) (by kernel_rfl) (fun _ _ _ h => h) (Or.inl ⟨by rfl, ?_⟩) hHeld ?_
      rotate_left
      · intro w0 hSw; (try dsimp only at hSw); obtain ⟨s1', s2'⟩ := hSw; go_simp <;> with_reducible rfl
      try simp only [Act.put, List.getElem_toArray, List.getElem_cons_zero, List.getElem_cons_succ, List.setIfInBounds_toArray, List.set_cons_zero, List.set_cons_succ]
      refine wpAnyH_take (i := 2) (v := ?_) rfl (by kernel_rfl) (by kernel_rfl) (by kernel_rfl) (fun _ _ _ h => h) (Or.inl ⟨by rfl, ?_⟩) hHeld ?_
      rotate_left
      · intro w0 hSw; (try dsimp only at hSw); obtain ⟨s1', s2'⟩ := hSw; go_simp <;> with_reducible rfl
      try simp only [Act.put, List.getElem_toArray, List.getElem_cons_zero, List.getElem_cons_succ, List.setIfInBounds_toArray, List.set_cons_zero, List.set_cons_succ]
      refine wpAnyH_take (i := 3) (v := ?_) rfl (by kernel_rfl) (by kernel_rfl) (by kernel_rfl) (fun _ _ _ h => h) (Or.inl ⟨by rfl, ?_⟩) hHeld ?_
      rotate_left
      · intro w0 hSw; (try dsimp only at hSw); obtain ⟨s1', s2'⟩ := hSw; go_simp <;> with_reducible rfl
      try simp only [Act.put, List.getElem_toArray, List.getElem_cons_zero, List.getElem_cons_succ, List.setIfInBounds_toArray, List.set_cons_zero, List.set_cons_succ]
      refine wpAnyH_take (i := 4) (v := ?_) rfl (by kernel_rfl) (by kernel_rfl) (by kernel_rfl) (fun _ _ _ h => h) (Or.inl ⟨by rfl, ?_⟩) hHeld ?_
      rotate_left
      · intro w0 hSw; (try dsimp only at hSw); obtain ⟨s1', s2'⟩ := hSw; go_simp <;> with_reducible rfl
      try simp only [Act.put, List.getElem_toArray, List.getElem_cons_zero, List.getElem_cons_succ, List.setIfInBounds_toArray, List.set_cons_zero, List.set_cons_succ]
      refine wpAnyH_take (i := 5) (v := ?_) rfl (by kernel_rfl) (by kernel_rfl) (by kernel_rfl) (fun _ _ _ h => h) (Or.inl ⟨by rfl, ?_⟩) hHeld ?_
      rotate_left
      · intro w0 hSw; (try dsimp only at hSw); obtain ⟨s1', s2'⟩ := hSw; go_simp <;> with_reducible rfl
      try simp only [Act.put, List.getElem_toArray, List.getElem_cons_zero, List.getElem_cons_succ, List.setIfInBounds_toArray, List.set_cons_zero, List.set_cons_succ]
      refine wpAnyH_take (i := 6) (v := ?_) rfl (by kernel_rfl) (by kernel_rfl) (by kernel_rfl) (fun _ _ _ h => h) (Or.inl ⟨by rfl, ?_⟩) hHeld ?_
      rotate_left
      · intro w0 hSw; (try dsimp only at hSw); obtain ⟨s1', s2'⟩ := hSw; go_simp <;> with_reducible rfl
      try simp only [Act.put, List.getElem_toArray, List.getElem_cons_zero, List.getElem_cons_succ, List.setIfInBounds_toArray, List.set_cons_zero, List.set_cons_succ]
      refine wpAnyH_take (i := 7) (v := ?_) rfl (by kernel_rfl) (by kernel_rfl) (by kernel_rfl) (fun _ _ _ h => h) (Or.inl ⟨by rfl, ?_⟩) hHeld ?_
      rotate_left
      · intro w0 hSw; (try dsimp only at hSw); obtain ⟨s1', s2'⟩ := hSw; go_simp <;> with_reducible rfl
      try simp only [Act.put, List.getElem_toArray, List.getElem_cons_zero, List.getElem_cons_succ, List.setIfInBounds_toArray, List.set_cons_zero, List.set_cons_succ]
      refine wpAnyH_take (i := 8) (v := ?_) rfl (by kernel_rfl) (by kernel_rfl) (by kernel_rfl) (fun _ _ _ h => h) (Or.inl ⟨by rfl, ?_⟩) hHeld ?_
      rotate_left
      · intro w0 hSw; (try dsimp only at hSw); obtain ⟨s1', s2'⟩ := hSw; go_simp <;> with_reducible rfl
      try simp only [Act.put, List.getElem_toArray, List.getElem_cons_zero, List.getElem_cons_succ, List.setIfInBounds_toArray, List.set_cons_zero, List.set_cons_succ]
      refine wpAnyH_take (i := 9) (v := ?_) rfl (by kernel_rfl) (by kernel_rfl) (by kernel_rfl) (fun _ _ _ h => h) (Or.inl ⟨by rfl, ?_⟩) hHeld ?_
      rotate_left
      · intro w0 hSw; (try dsimp only at hSw); obtain ⟨s1', s2'⟩ := hSw; go_simp <;> with_reducible rfl
      try simp only [Act.put, List.getElem_toArray, List.getElem_cons_zero, List.getElem_cons_succ, List.setIfInBounds_toArray, List.set_cons_zero, List.set_cons_succ]
      refine wpAnyH_ready (rs := [10]) (by kernel_rfl) (by simp) ?_
      refine AllReadyH.cons rfl (fun K hK => ?_) AllReadyH.nil
      rw [if_pos (by simp [Region.wanted])]
      go_simp
      refine (makeName t q _).mono ?_
      rintro e w8 ⟨rfl, hb8⟩
      have hb8' : Below wr.heap.size wr w8 := ⟨hb8.os, hb8.tape, hb8.output, hb8.size, hb8.block⟩
      have S8 : w8.cell? ⟨tb, to' + k, none⟩ = some (.string t) ∧ w8.cell? ⟨qb, qo + k, none⟩ = some (.string q) := ⟨by rw [hb8'.cell (World.block_lt_of_cell? wr _ s1)]; exact s1, by rw [hb8'.cell (World.block_lt_of_cell? wr _ s2)]; exact s2⟩
      refine hK.out _ _ S8 (fun hHeld => ?_)
      clear hK K
      try simp only [Act.put, List.getElem_toArray, List.getElem_cons_zero, List.getElem_cons_succ, List.setIfInBounds_toArray, List.set_cons_zero, List.set_cons_succ]
      refine wpAnyH_take (i := 11) (v := ?_) rfl (by kernel_rfl) (by kernel_rfl) (by kernel_rfl) (fun _ _ _ h => h) (Or.inl ⟨by rfl, ?_⟩) hHeld ?_
      rotate_left
      · intro w0 hSw; (try dsimp only at hSw); obtain ⟨s1', s2'⟩ := hSw; go_simp <;> with_reducible rfl
      try simp only [Act.put, List.getElem_toArray, List.getElem_cons_zero, List.getElem_cons_succ, List.setIfInBounds_toArray, List.set_cons_zero, List.set_cons_succ]
      refine wpAnyH_ready (rs := [12]) (by kernel_rfl) (by simp) ?_
      refine AllReadyH.cons rfl (fun K hK => ?_) AllReadyH.nil
      rw [if_pos (by simp [Region.wanted])]
      have HT8 := there_below HT0.out hb8' hS
      have hS8 : w6.heap.size < w8.heap.size := Nat.lt_of_lt_of_le hS hb8'.size
      refine wp_store_mid 46 (.tmp 146) (.tmp 145) (by rfl) w6.heap.size (k * 2) #[.string t, .string q] (by rfl) (by rfl) HT8 (by kernel_rfl) (by simp [Value.oneCell']) ?_
      refine hK.out _ _ ⟨by rw [World.cell?_setCells_out _ _ _ w8 _ (fun e _ => absurd (e ▸ World.block_lt_of_cell? w6 _ s01) (Nat.lt_irrefl _))]; exact S8.1, by rw [World.cell?_setCells_out _ _ _ w8 _ (fun e _ => absurd (e ▸ World.block_lt_of_cell? w6 _ s02) (Nat.lt_irrefl _))]; exact S8.2⟩ (fun hHeld => ?_)
      clear hK K
      try simp only [Act.put, List.getElem_toArray, List.getElem_cons_zero, List.getElem_cons_succ, List.setIfInBounds_toArray, List.set_cons_zero, List.set_cons_succ]

      refine wpAnyH_done (by kernel_rfl) ?_ _
      have hK8 := (ReadsAt.belowB HK0.out hb8' hS).snoc hkk HT8
      have hT8 := World.there_setCells (there_below HT9.out hb8' hS) w6.heap.size (k * 2) [.string t, .string q]
      have hb9 : Below w6.heap.size w6 (w8.setCells w6.heap.size (k * 2) [.string t, .string q]) := below_setCells (a := w6) (w := w6) (Nat.le_refl _) _ _ _ (Below.step hb hb8')
      have hS9 : w6.heap.size < (w8.setCells w6.heap.size (k * 2) [.string t, .string q]).heap.size := by rw [size_setCells]; exact hS8
      go_wp2
      exact ⟨⟨k + 1, by omega, by go_num, hb9, hT8, hK8, hS9⟩, by simp [intOf]; omega⟩
    · rw [List.take_of_length_le (by omega)] at hK
      obtain ⟨V, rfl⟩ : ∃ V, V = wr := ⟨_, rfl⟩
      have BV : Hid (Below w6.heap.size w6 V) := hb
      have KV : Hid (ReadsAt V w6.heap.size R) := hK
      have hSV := hS
      clear hb ht hK hS HZ
      obtain ⟨Q, hQ⟩ : ∃ Q, Q = WT.zip (WK.zip WV) := ⟨_, rfl⟩
      have hQl : Q.length = min (min WT.length WK.length) WV.length := by rw [hQ, List.length_zip, List.length_zip]; omega
      have HZ : Hid (∀ j t q x, Q[j]? = some (t, q, x) → WT[j]? = some t ∧ WK[j]? = some q ∧ WV[j]? = some x) := fun j t q x h => zip3 (by rw [← hQ]; exact h)
      have H12 : Hid (∀ W, Calls Try.prog 12 #[.int .i64 WT.length, .int .i64 WK.length, .int .i64 WV.length] W fun e w' => e = .returned (.int .i64 Q.length) ∧ W = w') := fun W => by rw [hQl]; exact zzmin3 _ _ _ W
      have hQb : Q.length ≤ 65536 := by omega
      have hQ1 : Q.length ≤ WT.length := by omega
      have hQ2 : Q.length ≤ WK.length := by omega
      have hQ3 : Q.length ≤ WV.length := by omega
      have HQe : Hid (Q = WT.zip (WK.zip WV)) := hQ
      clear hQl hQ
      obtain ⟨j35, z35, hi35, hz35, hs35, hby35⟩ := info35
      go_wp2_with (first
        | (go_at_call 12; refine Calls.mono (H12.out _) ?_; rintro _ _ ⟨rfl, rfl⟩)
        | (at_make; refine wpList_make_full _ rfl _ _ 32 rfl V.heap.size 35 j35 z35 3 Try.underlying32 hi35 hz35 hs35 .i64 .i64 _ _ Q.length rfl rfl rfl rfl (by rw [hby35]; omega) (by unfold maxLen; omega) (Nat.le_refl _) ?_; intro w7 hown7 hgr7))
      have hB7 : Below V.heap.size V w7 := ⟨hgr7.os, hgr7.tape, hgr7.output, hgr7.size, fun k hk => hgr7.block k hk (by simp)⟩
      obtain ⟨hT7, hS7⟩ := there_of_own hown7
      clear hown7 hgr7 hi35 hz35 hs35 hby35 H12
      go_loopw [30] (fun x wr => ∃ k : Nat, k ≤ Q.length ∧ x = .int .i64 k ∧ Below V.heap.size V wr ∧ wr.there V.heap.size 0 (Q.length * 3) ∧ WritesAt wr V.heap.size V.heap.size (Q.take k) ∧ V.heap.size < wr.heap.size) (fun x _ => Q.length - (intOf x).toNat)
      case atStart => exact ⟨0, Nat.zero_le _, rfl, hB7, hT7, by intro j k hk; simp at hk, hS7⟩
      case round =>
        clear hB7 hT7 hS7
        obtain ⟨k, hk, rfl, hb, ht, hK, hS⟩ := hrel
        have hb6 := Below.step BV.out hb
        by_cases hkl : k < Q.length
        · obtain ⟨⟨t, q, x⟩, hkk⟩ : ∃ p, Q[k]? = some p := ⟨Q[k], by simp [hkl]⟩
          obtain ⟨z1, z2, z3⟩ := HZ.out k t q x hkk
          have x1 : k < WT.length := by omega
          have x2 : k < WK.length := by omega
          have x3 : k < WV.length := by omega
          have vt := vWT6.out
          have vq := vWK6.out
          have vx := vWV6.out
          rcases vt with rfl | ⟨tb, to', rfl, vt⟩
          · simp at x1
          rcases vq with rfl | ⟨qb, qo, rfl, vq⟩
          · simp at x2
          rcases vx with rfl | ⟨xb, lo, rfl, vx⟩
          · simp at x3
          have s01 := vt k t z1
          have s02 := vq k q z2
          obtain ⟨v, s03, hv0⟩ := vx k x z3
          have s1 := (vt.below hb6) k t z1
          have s2 := (vq.below hb6) k q z2
          have s3 : wr.cell? ⟨xb, k, none⟩ = some v := by rw [hb6.cell (World.block_lt_of_cell? w6 _ s03)]; exact s03
          have HV : Hid (BNew wr lo v x) := hv0.below hb6
          have HVlt : Hid (∀ a n c, v = .slice (some a) n c → a.block < V.heap.size) := fun a n c e => Nat.lt_of_lt_of_le (hv0.2 a n c e).2 BV.out.size
          obtain ⟨sa, sn, sc, rfl⟩ : ∃ a n c, v = .slice a n c := by obtain ⟨q', _⟩ := hv0; cases q' <;> exact ⟨_, _, _, rfl⟩
          have y1 : tb < V.heap.size := Nat.lt_of_lt_of_le (World.block_lt_of_cell? w6 _ s01) BV.out.size
          have y2 : qb < V.heap.size := Nat.lt_of_lt_of_le (World.block_lt_of_cell? w6 _ s02) BV.out.size
          have y3 : xb < V.heap.size := Nat.lt_of_lt_of_le (World.block_lt_of_cell? w6 _ s03) BV.out.size
          clear vt vq vx z1 z2 z3 hv0 s01 s02 s03
          have HT0 : Hid (wr.there V.heap.size (k * 3) 3) := there_mono ht (by omega) (by omega)
          have HT9 : Hid (wr.there V.heap.size 0 (Q.length * 3)) := ht
          have HK0 : Hid (WritesAt wr V.heap.size V.heap.size (Q.take k)) := hK
          clear ht hK
          go_upto_region 24 with fail
          refine wp_region_held_drew (S := (fun W => W.cell? ⟨tb, to' + k, none⟩ = some (.string t) ∧ W.cell? ⟨qb, qo + k, none⟩ = some (.string q) ∧ W.cell? ⟨xb, k, none⟩ = some (.slice sa sn sc))) (by kernel_rfl) ?_ (fun hHeld => ?_)
          · exact ⟨s1, s2, s3⟩
          refine wpAnyH_take (i := 0) (v := ?_) rfl (by kernel_rfl) (by kernel_rfl) (by kernel_rfl) (fun _ _ _ h => h) (Or.inl ⟨by rfl, ?_⟩) hHeld ?_
          rotate_left
          · intro w0 hSw; (try dsimp only at hSw); obtain ⟨s1', s2', s3'⟩ := hSw; go_simp <;> with_reducible rfl
          try simp only [Act.put, List.getElem_toArray, List.getElem_cons_zero, List.getElem_cons_succ, List.setIfInBounds_toArray, List.set_cons_zero, List.set_cons_succ]
          refine wpAnyH_take (i := 1) (v := ?_) rfl (by kernel_rfl) (by kernel_rfl) (by kernel_rfl) (fun _ _ _ h => h) (Or.inl ⟨by rfl, ?_⟩) hHeld ?_
          rotate_left
          · intro w0 hSw; (try dsimp only at hSw); obtain ⟨s1', s2', s3'⟩ := hSw; go_simp <;> with_reducible rfl
          try simp only [Act.put, List.getElem_toArray, List.getElem_cons_zero, List.getElem_cons_succ, List.setIfInBounds_toArray, List.set_cons_zero, List.set_cons_succ]
          refine wpAnyH_take (i := 2) (v := ?_) rfl (by kernel_rfl) (by kernel_rfl) (by kernel_rfl) (fun _ _ _ h => h) (Or.inl ⟨by rfl, ?_⟩) hHeld ?_
          rotate_left
          · intro w0 hSw; (try dsimp only at hSw); obtain ⟨s1', s2', s3'⟩ := hSw; go_simp <;> with_reducible rfl
          try simp only [Act.put, List.getElem_toArray, List.getElem_cons_zero, List.getElem_cons_succ, List.setIfInBounds_toArray, List.set_cons_zero, List.set_cons_succ]
          refine wpAnyH_take (i := 3) (v := ?_) rfl (by kernel_rfl) (by kernel_rfl) (by kernel_rfl) (fun _ _ _ h => h) (Or.inl ⟨by rfl, ?_⟩) hHeld ?_
          rotate_left
          · intro w0 hSw; (try dsimp only at hSw); obtain ⟨s1', s2', s3'⟩ := hSw; go_simp <;> with_reducible rfl
          try simp only [Act.put, List.getElem_toArray, List.getElem_cons_zero, List.getElem_cons_succ, List.setIfInBounds_toArray, List.set_cons_zero, List.set_cons_succ]
          refine wpAnyH_take (i := 4) (v := ?_) rfl (by kernel_rfl) (by kernel_rfl) (by kernel_rfl) (fun _ _ _ h => h) (Or.inl ⟨by rfl, ?_⟩) hHeld ?_
          rotate_left
          · intro w0 hSw; (try dsimp only at hSw); obtain ⟨s1', s2', s3'⟩ := hSw; go_simp <;> with_reducible rfl
          try simp only [Act.put, List.getElem_toArray, List.getElem_cons_zero, List.getElem_cons_succ, List.setIfInBounds_toArray, List.set_cons_zero, List.set_cons_succ]
          refine wpAnyH_take (i := 5) (v := ?_) rfl (by kernel_rfl) (by kernel_rfl) (by kernel_rfl) (fun _ _ _ h => h) (Or.inl ⟨by rfl, ?_⟩) hHeld ?_
          rotate_left
          · intro w0 hSw; (try dsimp only at hSw); obtain ⟨s1', s2', s3'⟩ := hSw; go_simp <;> with_reducible rfl
          try simp only [Act.put, List.getElem_toArray, List.getElem_cons_zero, List.getElem_cons_succ, List.setIfInBounds_toArray, List.set_cons_zero, List.set_cons_succ]
          refine wpAnyH_take (i := 6) (v := ?_) rfl (by kernel_rfl) (by kernel_rfl) (by kernel_rfl) (fun _ _ _ h => h) (Or.inl ⟨by rfl, ?_⟩) hHeld ?_
          rotate_left
          · intro w0 hSw; (try dsimp only at hSw); obtain ⟨s1', s2', s3'⟩ := hSw; go_simp <;> with_reducible rfl
          try simp only [Act.put, List.getElem_toArray, List.getElem_cons_zero, List.getElem_cons_succ, List.setIfInBounds_toArray, List.set_cons_zero, List.set_cons_succ]
          refine wpAnyH_take (i := 7) (v := ?_) rfl (by kernel_rfl) (by kernel_rfl) (by kernel_rfl) (fun _ _ _ h => h) (Or.inl ⟨by rfl, ?_⟩) hHeld ?_
          rotate_left
          · intro w0 hSw; (try dsimp only at hSw); obtain ⟨s1', s2', s3'⟩ := hSw; go_simp <;> with_reducible rfl
          try simp only [Act.put, List.getElem_toArray, List.getElem_cons_zero, List.getElem_cons_succ, List.setIfInBounds_toArray, List.set_cons_zero, List.set_cons_succ]
          refine wpAnyH_take (i := 8) (v := ?_) rfl (by kernel_rfl) (by kernel_rfl) (by kernel_rfl) (fun _ _ _ h => h) (Or.inl ⟨by rfl, ?_⟩) hHeld ?_
          rotate_left
          · intro w0 hSw; (try dsimp only at hSw); obtain ⟨s1', s2', s3'⟩ := hSw; go_simp <;> with_reducible rfl
          try simp only [Act.put, List.getElem_toArray, List.getElem_cons_zero, List.getElem_cons_succ, List.setIfInBounds_toArray, List.set_cons_zero, List.set_cons_succ]
          refine wpAnyH_take (i := 9) (v := ?_) rfl (by kernel_rfl) (by kernel_rfl) (by kernel_rfl) (fun _ _ _ h => h) (Or.inl ⟨by rfl, ?_⟩) hHeld ?_
          rotate_left
          · intro w0 hSw; (try dsimp only at hSw); obtain ⟨s1', s2', s3'⟩ := hSw; go_simp <;> with_reducible rfl
          try simp only [Act.put, List.getElem_toArray, List.getElem_cons_zero, List.getElem_cons_succ, List.setIfInBounds_toArray, List.set_cons_zero, List.set_cons_succ]
          refine wpAnyH_take (i := 10) (v := ?_) rfl (by kernel_rfl) (by kernel_rfl) (by kernel_rfl) (fun _ _ _ h => h) (Or.inl ⟨by rfl, ?_⟩) hHeld ?_
          rotate_left
          · intro w0 hSw; (try dsimp only at hSw); obtain ⟨s1', s2', s3'⟩ := hSw; go_simp <;> with_reducible rfl
          try simp only [Act.put, List.getElem_toArray, List.getElem_cons_zero, List.getElem_cons_succ, List.setIfInBounds_toArray, List.set_cons_zero, List.set_cons_succ]
          refine wpAnyH_take (i := 11) (v := ?_) rfl (by kernel_rfl) (by kernel_rfl) (by kernel_rfl) (fun _ _ _ h => h) (Or.inl ⟨by rfl, ?_⟩) hHeld ?_
          rotate_left
          · intro w0 hSw; (try dsimp only at hSw); obtain ⟨s1', s2', s3'⟩ := hSw; go_simp <;> with_reducible rfl
          try simp only [Act.put, List.getElem_toArray, List.getElem_cons_zero, List.getElem_cons_succ, List.setIfInBounds_toArray, List.set_cons_zero, List.set_cons_succ]
          refine wpAnyH_take (i := 12) (v := ?_) rfl (by kernel_rfl) (by kernel_rfl) (by kernel_rfl) (fun _ _ _ h => h) (Or.inl ⟨by rfl, ?_⟩) hHeld ?_
          rotate_left
          · intro w0 hSw; (try dsimp only at hSw); obtain ⟨s1', s2', s3'⟩ := hSw; go_simp <;> with_reducible rfl
          try simp only [Act.put, List.getElem_toArray, List.getElem_cons_zero, List.getElem_cons_succ, List.setIfInBounds_toArray, List.set_cons_zero, List.set_cons_succ]
          refine wpAnyH_take (i := 13) (v := ?_) rfl (by kernel_rfl) (by kernel_rfl) (by kernel_rfl) (fun _ _ _ h => h) (Or.inl ⟨by rfl, ?_⟩) hHeld ?_
          rotate_left
          · intro w0 hSw; (try dsimp only at hSw); obtain ⟨s1', s2', s3'⟩ := hSw; go_simp <;> with_reducible rfl
          try simp only [Act.put, List.getElem_toArray, List.getElem_cons_zero, List.getElem_cons_succ, List.setIfInBounds_toArray, List.set_cons_zero, List.set_cons_succ]
          refine wpAnyH_take (i := 14) (v := ?_) rfl (by kernel_rfl) (by kernel_rfl) (by kernel_rfl) (fun _ _ _ h => h) (Or.inl ⟨by rfl, ?_⟩) hHeld ?_
          rotate_left
          · intro w0 hSw; (try dsimp only at hSw); obtain ⟨s1', s2', s3'⟩ := hSw; go_simp <;> with_reducible rfl
          try simp only [Act.put, List.getElem_toArray, List.getElem_cons_zero, List.getElem_cons_succ, List.setIfInBounds_toArray, List.set_cons_zero, List.set_cons_succ]
          refine wpAnyH_take (i := 15) (v := ?_) rfl (by kernel_rfl) (by kernel_rfl) (by kernel_rfl) (fun _ _ _ h => h) (Or.inl ⟨by rfl, ?_⟩) hHeld ?_
          rotate_left
          · intro w0 hSw; (try dsimp only at hSw); obtain ⟨s1', s2', s3'⟩ := hSw; go_simp <;> with_reducible rfl
          try simp only [Act.put, List.getElem_toArray, List.getElem_cons_zero, List.getElem_cons_succ, List.setIfInBounds_toArray, List.set_cons_zero, List.set_cons_succ]
          refine wpAnyH_ready (rs := [16]) (by kernel_rfl) (by simp) ?_
          refine AllReadyH.cons rfl (fun K hK => ?_) AllReadyH.nil
          rw [if_pos (by simp [Region.wanted])]
          refine wp_store_mid 35 (.tmp 176) (.tmp 175) (by rfl) V.heap.size (k * 3) #[.string t, .string q, .slice sa sn sc] (by rfl) (by rfl) HT0.out (by kernel_rfl) (by simp [Value.oneCell']) ?_
          refine hK.out _ _ ⟨?_, ?_, ?_⟩ (fun hHeld => ?_)
          · rw [World.cell?_setCells_out _ _ _ _ _ (fun e _ => absurd (e ▸ y1) (Nat.lt_irrefl _))]; exact s1
          · rw [World.cell?_setCells_out _ _ _ _ _ (fun e _ => absurd (e ▸ y2) (Nat.lt_irrefl _))]; exact s2
          · rw [World.cell?_setCells_out _ _ _ _ _ (fun e _ => absurd (e ▸ y3) (Nat.lt_irrefl _))]; exact s3
          clear hK K
          try simp only [Act.put, List.getElem_toArray, List.getElem_cons_zero, List.getElem_cons_succ, List.setIfInBounds_toArray, List.set_cons_zero, List.set_cons_succ]
          refine wpAnyH_done (by kernel_rfl) ?_ _
          have hK8 := (writes_drew HK0.out).snoc hkk (bval_drew HV.out.1) HVlt.out (W := wr.drew) HT0.out
          have hT8 := World.there_setCells (w := wr.drew) HT9.out V.heap.size (k * 3) [.string t, .string q, .slice sa sn sc]
          have hb9 : Below V.heap.size V (wr.drew.setCells V.heap.size (k * 3) [.string t, .string q, .slice sa sn sc]) := below_setCells (a := V) (w := V) (Nat.le_refl _) _ _ _ hb.drew
          have hS9 : V.heap.size < (wr.drew.setCells V.heap.size (k * 3) [.string t, .string q, .slice sa sn sc]).heap.size := by rw [size_setCells]; exact hS
          go_wp2
          exact ⟨⟨k + 1, by omega, by go_num, hb9, hT8, hK8, hS9⟩, by simp [intOf]; omega⟩
        · rw [List.take_of_length_le (by omega)] at hK
          obtain ⟨U, rfl⟩ : ∃ U, U = wr := ⟨_, rfl⟩
          have hVU := hb
          clear ht HZ
          have BU : Hid (Below w6.heap.size w6 U) := hb6
          have KU : Hid (WritesAt U V.heap.size V.heap.size Q) := hK
          have RU : Hid (ReadsAt U w6.heap.size R) := ReadsAt.belowB KV.out hVU hSV
          have hsU := hb6.size
          clear hb hK hb6
          have H22 : Hid (Calls Try.prog 22 #[.int .u8 2, .agg #[.string site, .int .i64 node, .int .u64 idSeq], .slice pa P.length pc, .int .u64 ticket, .slice (some ⟨w6.heap.size, 0, none⟩) R.length R.length, .slice (some ⟨V.heap.size, 0, none⟩) Q.length Q.length, .int .u64 seq, .slice none 0 0] U fun e w' => e = .returned (.pointer (some ⟨U.heap.size + 1, 0, none⟩)) ∧ Below U.heap.size U w' ∧ RecAt w' w'.heap.size (U.heap.size + 1) 2 (.slice pa P.length pc) w6.heap.size R.length V.heap.size Q.length (theRec site node idSeq P ticket RT RK WT WK WV seq)) := by
            refine (newRecord 2 site node idSeq pa (some ⟨w6.heap.size, 0, none⟩) (some ⟨V.heap.size, 0, none⟩) P.length pc R.length R.length Q.length Q.length ticket seq U).mono ?_
            rintro e w' ⟨rfl, g1, g2, g3⟩
            refine ⟨rfl, g1, recAt_of ?_ (by omega) ?_ ?_ ?_ (by omega) ?_ (by omega)⟩
            · have e1 : (theRec site node idSeq P ticket RT RK WT WK WV seq).reads.length = R.length := by rw [HRe.out]; rfl
              have e2 : (theRec site node idSeq P ticket RT RK WT WK WV seq).writes.length = Q.length := by rw [HQe.out]; rfl
              rw [e1, e2]; exact g3
            · exact IVal.belowB vP6.out (Below.step BU.out g1) nP6.out
            · exact fun a n c e => Nat.lt_of_lt_of_le (nP6.out a n c e) (by omega)
            · show ReadsAt w' w6.heap.size (RT.zip RK)
              rw [← HRe.out]; exact ReadsAt.belowB RU.out g1 (by omega)
            · show WritesAt w' w'.heap.size V.heap.size (WT.zip (WK.zip WV))
              rw [← HQe.out]; exact (WritesAt.belowB (KU.out.mono (Nat.le_of_lt hS)) g1 (by omega)).mono (by omega)
          obtain ⟨rr, hrr⟩ : ∃ rr, rr = theRec site node idSeq P ticket RT RK WT WK WV seq := ⟨_, rfl⟩
          rw [← hrr] at H22 ok
          have H23 : Hid (∀ X, RecAt X X.heap.size (U.heap.size + 1) 2 (.slice pa P.length pc) w6.heap.size R.length V.heap.size Q.length rr → Calls Try.prog 23 #[.pointer (some ⟨U.heap.size + 1, 0, none⟩)] X fun e w' => ∃ b c, e = .returned (.slice (some ⟨b, 0, none⟩) (enc 2 rr).length c) ∧ X.heap.size ≤ b ∧ BytesAt w' b 0 (enc 2 rr) ∧ Below X.heap.size X w') := fun X hX => zzencode 2 _ _ _ _ _ _ _ rr X hX ok (Nat.le_refl _) (by omega)
          obtain ⟨bs, hbs⟩ : ∃ bs, bs = enc 2 rr := ⟨_, rfl⟩
          have hbl : bs.length ≤ 1073741824 := by rw [hbs]; exact encTail_le _ ok
          have hA0 : At bs 2 (encTail 2 rr) := by rw [hbs]; exact At.enc 2 rr
          have hb0 : bs[0]? = some 2 := by rw [hbs]; rfl
          have hb1 : bs[1]? = some 2 := by rw [hbs]; rfl
          have H24 : Hid (∀ X Y, RecAt X X.heap.size (U.heap.size + 1) 2 (.slice pa P.length pc) w6.heap.size R.length V.heap.size Q.length rr → Below X.heap.size X Y → Calls Try.prog 24 #[.pointer (some ⟨U.heap.size + 1, 0, none⟩)] Y fun e w' => e = .returned (.int .i64 bs.length) ∧ Below Y.heap.size Y w') := fun X Y hX hY => by
            rw [hbs]; exact zzsize 2 _ _ _ _ _ _ _ rr Y (hX.belowB hY) ok hY.size (by omega)
          rw [← hbs] at H23
          have h2l : 2 ≤ bs.length := by have := hA0.len; omega
          have HE : Hid (rr = theRec site node idSeq P ticket RT RK WT WK WV seq) := hrr
          clear hbs hrr
          have HU : Hid (Below w6.heap.size w6 U) := BU.out
          clear KU RU BU
          go_upto_region 32 with (first
            | (go_at_call 22; refine Calls.mono H22.out ?_; rintro _ X ⟨rfl, bX, rX⟩)
            | (go_at_call 23; refine Calls.mono (H23.out _ (by assumption)) ?_; rintro _ Y ⟨bb, bc, rfl, hbb, yB, bY⟩; have y0 := yB 0 _ hb0; have y1 := yB 1 _ hb1)
            | (go_at_call 24; refine Calls.mono (H24.out _ _ (by assumption) (by assumption)) ?_; rintro _ Z ⟨rfl, bZ⟩; have zB := BytesAt.below (by assumption) bZ; have z0 := bytes_at zB 0 _ hb0; have z1 := bytes_at zB 1 _ hb1))
          have bwZ : Hid (Below w.heap.size w Z) := Below.step (Below.step (Below.step (Below.step BW.out HU.out) bX) bY) bZ
          have HBZ : Hid (BytesAt Z bb 0 bs) := zB
          have b6Z : Hid (Below w6.heap.size w6 Z) := Below.step (Below.step (Below.step HU.out bX) bY) bZ
          clear H22 H23 H24 rX yB zB y0 y1 z0 z1 bX bY bZ hb0 hb1 HU
          have hA1 : At bs 2 (encS site ++ (Lib.uvarint (u64 node) ++ (Lib.uvarint idSeq ++ (encI P ++ (encR R ++ (encW Q ++ [])))))) := by
            have e1 := HRe.out
            have e2 := HQe.out
            rw [HE.out] at hA0
            simpa [encTail, encD, theRec, e1, e2] using hA0
          have hA2 := hA1.step
          have hA3 := hA2.step
          have hA4 := hA3.step
          obtain ⟨q1, hq1⟩ : ∃ q, q = 2 + (encS site).length := ⟨_, rfl⟩
          obtain ⟨q2, hq2⟩ : ∃ q, q = q1 + (Lib.uvarint (u64 node)).length := ⟨_, rfl⟩
          obtain ⟨q3, hq3⟩ : ∃ q, q = q2 + (Lib.uvarint idSeq).length := ⟨_, rfl⟩
          rw [← hq1] at hA2 hA3 hA4
          rw [← hq2] at hA3 hA4
          rw [← hq3] at hA4
          have D1 : Hid (∀ W, BytesAt W bb 0 bs → Calls Try.prog 26 #[.slice (some ⟨bb, 0, none⟩) bs.length bc, .int .i64 2, .string site] W fun e w' => e = .returned (.tuple #[.int .i64 q1, .bool true]) ∧ Below W.heap.size W w') := fun W hW => by
            have h := zzstring site 2 bb bc bs _ W hW hA1.drop (by omega)
            rw [← hq1] at h
            exact h
          have D2 : Hid (∀ W, BytesAt W bb 0 bs → Calls Try.prog 25 #[.slice (some ⟨bb, 0, none⟩) bs.length bc, .int .i64 q1] W fun e w' => e = .returned (.tuple #[.int .u64 (IntKind.u64.wrap node), .int .i64 q2, .bool true]) ∧ W = w') := fun W hW => by
            have h := zzuvarint (u64 node) q1 bb bc bs _ W hW hA2.drop (by have := u64_lt node; omega) (by omega)
            rw [← hq2, ← wrap_u64] at h
            exact h
          have D3 : Hid (∀ W, BytesAt W bb 0 bs → Calls Try.prog 25 #[.slice (some ⟨bb, 0, none⟩) bs.length bc, .int .i64 q2] W fun e w' => e = .returned (.tuple #[.int .u64 idSeq, .int .i64 q3, .bool true]) ∧ W = w') := fun W hW => by
            have h := zzuvarint idSeq q2 bb bc bs _ W hW hA3.drop i1 (by omega)
            rw [← hq3] at h
            exact h
          have HA4 : Hid (At bs q3 (encI P ++ (encR R ++ (encW Q ++ [])))) := hA4
          have hq3b : q3 ≤ bs.length := by have := hA4.len; omega
          clear hA0 hA1 hA2 hA3 hA4 hq1 hq2 hq3
          have BZ0 : Below Z.heap.size Z Z := Below.refl _ _
          have zB := HBZ.out
          obtain ⟨q4, hq4⟩ : ∃ q, q = q3 + (Lib.uvarint P.length).length := ⟨_, rfl⟩
          have hA5 : At bs q3 (Lib.uvarint P.length ++ (cat uz P ++ (encR R ++ (encW Q ++ [])))) := by simpa [encI] using HA4.out
          have hA6 := hA5.step
          rw [← hq4] at hA6
          have D4 : Hid (∀ W, BytesAt W bb 0 bs → Calls Try.prog 25 #[.slice (some ⟨bb, 0, none⟩) bs.length bc, .int .i64 q3] W fun e w' => e = .returned (.tuple #[.int .u64 P.length, .int .i64 q4, .bool true]) ∧ W = w') := fun W hW => by
            have h := zzuvarint P.length q3 bb bc bs _ W hW hA5.drop (by omega) (by omega)
            rw [← hq4] at h
            exact h
          have HA6 : Hid (At bs q4 (cat uz P ++ (encR R ++ (encW Q ++ [])))) := hA6
          clear hA5 hA6 hq4 HA4
          go_wp2_with (first
            | (go_at_call 25; have _t := ‹Stage 4›; refine Calls.mono (D4.out _ (by assumption)) ?_; rintro _ _ ⟨rfl, rfl⟩; have st5 : Stage 5 := ⟨⟩)
            | (go_at_call 25; have _t := ‹Stage 3›; refine Calls.mono (D3.out _ (by assumption)) ?_; rintro _ _ ⟨rfl, rfl⟩; have st4 : Stage 4 := ⟨⟩)
            | (go_at_call 25; have _t := ‹Stage 2›; refine Calls.mono (D2.out _ (by assumption)) ?_; rintro _ _ ⟨rfl, rfl⟩; have st3 : Stage 3 := ⟨⟩)
            | (go_at_call 26; refine Calls.mono (D1.out _ (by assumption)) ?_; rintro _ W1 ⟨rfl, bW1⟩; have zB1 := BytesAt.below (by assumption) bW1; have st2 : Stage 2 := ⟨⟩))
          have HBW : Hid (BytesAt W1 bb 0 bs) := zB1
          have b61 : Hid (Below w6.heap.size w6 W1) := Below.step b6Z.out bW1
          have bw1 : Hid (Below w.heap.size w W1) := Below.step bwZ.out bW1
          have vP1 : Hid (IVal W1 (.slice pa P.length pc) P) := IVal.belowB vP6.out b61.out nP6.out
          clear D1 D2 D3 D4 zB zB1 bW1 st2 st3 st4 st5 bwZ b6Z HBZ
          go_loop [33, 34, 35, 36] (fun p v o x => ∃ (k m : Nat) (vv : Int), k ≤ P.length ∧ x = .int .i64 k ∧ p = .int .i64 m ∧ v = .int .u64 vv ∧ o = .bool true ∧ Hid (At bs m (cat uz (P.drop k) ++ (encR R ++ (encW Q ++ []))))) (fun _ _ _ x => P.length - (intOf x).toNat)
          case atStart => exact ⟨0, q4, P.length, Nat.zero_le _, rfl, rfl, rfl, rfl, HA6.out⟩
          case round =>
            obtain ⟨k, m, vv, hk, rfl, rfl, rfl, rfl, hAt⟩ := hrel
            by_cases hkl : k < P.length
            · obtain ⟨pb, rfl, hints⟩ := IVal.row_of vP1.out hkl
              have g0 := hints k P[k] (by simp [hkl])
              simp only [Nat.zero_add] at g0
              have hB1 := hAt.out
              rw [cat_drop uz P k hkl, List.append_assoc] at hB1
              have hB2 := hB1.step
              have hml := hB1.len
              have HAn : Hid (At bs (m + (uz P[k]).length) (cat uz (P.drop (k + 1)) ++ (encR R ++ (encW Q ++ [])))) := hB2
              have D5 : Hid (Calls Try.prog 25 #[.slice (some ⟨bb, 0, none⟩) bs.length bc, .int .i64 m] W1 fun e w' => e = .returned (.tuple #[.int .u64 (IntKind.u64.wrap P[k]), .int .i64 (m + (uz P[k]).length : Nat), .bool true]) ∧ W1 = w') := by
                have h := zzuvarint (u64 P[k]) m bb bc bs _ W1 HBW.out hB1.drop (by have := u64_lt P[k]; omega) (by omega)
                rw [← wrap_u64] at h
                exact h
              clear hB1 hB2 hAt hints hml
              generalize P[k] = zz at *
              generalize (uz zz).length = ul at *
              go_wp2_with (go_at_call 25; refine Calls.mono D5.out ?_; rintro _ _ ⟨rfl, rfl⟩)
              exact ⟨⟨k + 1, m + ul, _, by omega, by go_num, by go_num, rfl, rfl, HAn⟩, by simp [intOf]; omega⟩
            · have hAe := hAt.out
              rw [cat_end uz P k (by omega), List.nil_append] at hAe
              clear hAt
              have hR0 : Hid (At bs m (encR R ++ (encW Q ++ []))) := hAe
              clear hAe
              have hC1 := hR0.out
              clear hR0
              obtain ⟨q6, hq6⟩ : ∃ q, q = m + (Lib.uvarint R.length).length := ⟨_, rfl⟩
              have hC2 : At bs m (Lib.uvarint R.length ++ (cat encP R ++ (encW Q ++ []))) := by simpa [encR] using hC1
              have hC3 := hC2.step
              rw [← hq6] at hC3
              have E2 : Hid (Calls Try.prog 25 #[.slice (some ⟨bb, 0, none⟩) bs.length bc, .int .i64 m] W1 fun e w' => e = .returned (.tuple #[.int .u64 R.length, .int .i64 q6, .bool true]) ∧ W1 = w') := by
                have h := zzuvarint R.length m bb bc bs _ W1 HBW.out hC2.drop (by omega) (by omega)
                rw [← hq6] at h
                exact h
              have HC3 : Hid (At bs q6 (cat encP R ++ (encW Q ++ []))) := hC3
              clear hC1 hC2 hC3 hq6
              go_wp2_with (first
                | (go_at_call 25; refine Calls.mono E2.out ?_; rintro _ _ ⟨rfl, rfl⟩))
              go_loopw [33, 35, 37] (fun p o x wr => ∃ k m : Nat, k ≤ R.length ∧ x = .int .i64 k ∧ p = .int .i64 m ∧ o = .bool true ∧ Hid (At bs m (cat encP (R.drop k) ++ (encW Q ++ []))) ∧ Below W1.heap.size W1 wr) (fun _ _ x _ => R.length - (intOf x).toNat)
              case atStart => exact ⟨0, q6, Nat.zero_le _, rfl, rfl, rfl, HC3.out, Below.refl _ _⟩
              case round =>
                clear HC3 E2 hkl hk
                obtain ⟨k, m, hk, rfl, rfl, rfl, hAt, hb⟩ := hrel
                have hb6 := Below.step b61.out hb
                by_cases hkl : k < R.length
                · obtain ⟨⟨t, q⟩, hkk⟩ : ∃ p, R[k]? = some p := ⟨R[k], by simp [hkl]⟩
                  have hgk : R[k] = (t, q) := by rw [List.getElem?_eq_getElem hkl] at hkk; exact Option.some.inj hkk
                  obtain ⟨z1, z2⟩ := zip2 (RT := RT) (RK := RK) (j := k) (t := t) (q := q) (by rw [← HRe.out]; exact hkk)
                  have x1 : k < RT.length := by omega
                  have x2 : k < RK.length := by omega
                  have vt := vRT6.out
                  have vq := vRK6.out
                  rcases vt with rfl | ⟨tb, to', rfl, vt⟩
                  · simp at x1
                  rcases vq with rfl | ⟨qb, qo, rfl, vq⟩
                  · simp at x2
                  have s1 := (vt.below hb6) k t z1
                  have s2 := (vq.below hb6) k q z2
                  have hB1 := hAt.out
                  rw [cat_drop encP R k hkl, hgk, List.append_assoc] at hB1
                  have hB1' : At bs m (encS t ++ (encS q ++ (cat encP (R.drop (k + 1)) ++ (encW Q ++ [])))) := by simpa [encP] using hB1
                  have hB2 := hB1'.step
                  have hB3 := hB2.step
                  obtain ⟨m2, hm2⟩ : ∃ q, q = m + (encS t).length := ⟨_, rfl⟩
                  obtain ⟨m3, hm3⟩ : ∃ x, x = m2 + (encS q).length := ⟨_, rfl⟩
                  rw [← hm2] at hB2 hB3
                  rw [← hm3] at hB3
                  have F1 : Hid (∀ W, BytesAt W bb 0 bs → Calls Try.prog 26 #[.slice (some ⟨bb, 0, none⟩) bs.length bc, .int .i64 m, .string t] W fun e w' => e = .returned (.tuple #[.int .i64 m2, .bool true]) ∧ Below W.heap.size W w') := fun W hW => by
                    have h := zzstring t m bb bc bs _ W hW hB1'.drop (by omega)
                    rw [← hm2] at h
                    exact h
                  have F2 : Hid (∀ W, BytesAt W bb 0 bs → Calls Try.prog 26 #[.slice (some ⟨bb, 0, none⟩) bs.length bc, .int .i64 m2, .string q] W fun e w' => e = .returned (.tuple #[.int .i64 m3, .bool true]) ∧ Below W.heap.size W w') := fun W hW => by
                    have h := zzstring q m2 bb bc bs _ W hW hB2.drop (by omega)
                    rw [← hm3] at h
                    exact h
                  have HAn : Hid (At bs m3 (cat encP (R.drop (k + 1)) ++ (encW Q ++ []))) := hB3
                  have zW := BytesAt.below HBW.out hb
                  clear hB1 hB1' hB2 hB3 hAt vt vq z1 z2 hm2 hm3 hkk hgk
                  go_wp2_with (first
                    | (go_at_call 26; have _t := ‹Stage 9›; refine Calls.mono (F2.out _ (by assumption)) ?_; rintro _ W3 ⟨rfl, bW3⟩)
                    | (go_at_call 26; refine Calls.mono (F1.out _ (by assumption)) ?_; rintro _ W2 ⟨rfl, bW2⟩; have zW2 := BytesAt.below (by assumption) bW2; have s2' := cell_below bW2 s2; have st9 : Stage 9 := ⟨⟩))
                  exact ⟨⟨k + 1, m3, by omega, by go_num, rfl, rfl, HAn, Below.step (Below.step hb bW2) bW3⟩, by simp [intOf]; omega⟩
                · have hAe := hAt.out
                  rw [cat_end encP R k (by omega), List.nil_append] at hAe
                  clear hAt
                  obtain ⟨W4, rfl⟩ : ∃ W4, W4 = wr := ⟨_, rfl⟩
                  have b64 : Hid (Below w6.heap.size w6 W4) := hb6
                  have bw4 : Hid (Below w.heap.size w W4) := Below.step bw1.out hb
                  have HB4 : Hid (BytesAt W4 bb 0 bs) := BytesAt.below HBW.out hb
                  clear hb6 hb
                  obtain ⟨q7, hq7⟩ : ∃ q, q = m + (Lib.uvarint Q.length).length := ⟨_, rfl⟩
                  have hC2 : At bs m (Lib.uvarint Q.length ++ (cat encQ Q ++ [])) := by simpa [encW] using hAe
                  have hC3 := hC2.step
                  rw [← hq7] at hC3
                  have E3 : Hid (Calls Try.prog 25 #[.slice (some ⟨bb, 0, none⟩) bs.length bc, .int .i64 m] W4 fun e w' => e = .returned (.tuple #[.int .u64 Q.length, .int .i64 q7, .bool true]) ∧ W4 = w') := by
                    have h := zzuvarint Q.length m bb bc bs _ W4 HB4.out hC2.drop (by omega) (by omega)
                    rw [← hq7] at h
                    exact h
                  have HC4 : Hid (At bs q7 (cat encQ Q ++ [])) := hC3
                  clear hAe hC2 hC3 hq7
                  go_wp2_with (go_at_call 25; refine Calls.mono E3.out ?_; rintro _ _ ⟨rfl, rfl⟩)
                  go_loopw [33, 35, 38] (fun p o x wr => ∃ k m : Nat, k ≤ Q.length ∧ x = .int .i64 k ∧ p = .int .i64 m ∧ o = .bool true ∧ Hid (At bs m (cat encQ (Q.drop k) ++ [])) ∧ Below W4.heap.size W4 wr) (fun _ _ x _ => Q.length - (intOf x).toNat)
                  case atStart => exact ⟨0, q7, Nat.zero_le _, rfl, rfl, rfl, HC4.out, Below.refl _ _⟩
                  case round =>
                    clear HC4 E3 hkl hk
                    obtain ⟨k, m, hk, rfl, rfl, rfl, hAt, hb⟩ := hrel
                    have hb6 := Below.step b64.out hb
                    by_cases hkl : k < Q.length
                    · obtain ⟨⟨t, q, x⟩, hkk⟩ : ∃ p, Q[k]? = some p := ⟨Q[k], by simp [hkl]⟩
                      have hgk : Q[k] = (t, q, x) := by rw [List.getElem?_eq_getElem hkl] at hkk; exact Option.some.inj hkk
                      obtain ⟨z1, z2, z3⟩ := zip3 (WT := WT) (WK := WK) (WV := WV) (j := k) (t := t) (q := q) (x := x) (by rw [← HQe.out]; exact hkk)
                      have x1 : k < WT.length := by omega
                      have x2 : k < WK.length := by omega
                      have x3 : k < WV.length := by omega
                      have vt := vWT6.out
                      have vq := vWK6.out
                      have vx := vWV6.out
                      rcases vt with rfl | ⟨tb, to', rfl, vt⟩
                      · simp at x1
                      rcases vq with rfl | ⟨qb, qo, rfl, vq⟩
                      · simp at x2
                      rcases vx with rfl | ⟨xb, lo, rfl, vx⟩
                      · simp at x3
                      have s1 := (vt.below hb6) k t z1
                      have s2 := (vq.below hb6) k q z2
                      obtain ⟨v, s3, hv0⟩ := (vx.below hb6) k x z3
                      obtain ⟨sa, sn, sc, rfl⟩ : ∃ a n c, v = .slice a n c := by obtain ⟨q', _⟩ := hv0; cases q' <;> exact ⟨_, _, _, rfl⟩
                      have hB1 := hAt.out
                      rw [cat_drop encQ Q k hkl, hgk, List.append_assoc] at hB1
                      have hB1' : At bs m (encS t ++ (encS q ++ (encB x ++ (cat encQ (Q.drop (k + 1)) ++ [])))) := by simpa [encQ] using hB1
                      have hB2 := hB1'.step
                      have hB3 := hB2.step
                      have hB4 := hB3.step
                      obtain ⟨m2, hm2⟩ : ∃ q, q = m + (encS t).length := ⟨_, rfl⟩
                      obtain ⟨m3, hm3⟩ : ∃ x, x = m2 + (encS q).length := ⟨_, rfl⟩
                      obtain ⟨m4, hm4⟩ : ∃ y, y = m3 + (encB x).length := ⟨_, rfl⟩
                      rw [← hm2] at hB2 hB3 hB4
                      rw [← hm3] at hB3 hB4
                      rw [← hm4] at hB4
                      have F1 : Hid (∀ W, BytesAt W bb 0 bs → Calls Try.prog 26 #[.slice (some ⟨bb, 0, none⟩) bs.length bc, .int .i64 m, .string t] W fun e w' => e = .returned (.tuple #[.int .i64 m2, .bool true]) ∧ Below W.heap.size W w') := fun W hW => by
                        have h := zzstring t m bb bc bs _ W hW hB1'.drop (by omega)
                        rw [← hm2] at h
                        exact h
                      have F2 : Hid (∀ W, BytesAt W bb 0 bs → Calls Try.prog 26 #[.slice (some ⟨bb, 0, none⟩) bs.length bc, .int .i64 m2, .string q] W fun e w' => e = .returned (.tuple #[.int .i64 m3, .bool true]) ∧ Below W.heap.size W w') := fun W hW => by
                        have h := zzstring q m2 bb bc bs _ W hW hB2.drop (by omega)
                        rw [← hm3] at h
                        exact h
                      have F3 : Hid (∀ W, BytesAt W bb 0 bs → Below wr.heap.size wr W → Calls Try.prog 27 #[.slice (some ⟨bb, 0, none⟩) bs.length bc, .int .i64 m3, .slice sa sn sc] W fun e w' => e = .returned (.tuple #[.int .i64 m4, .bool true]) ∧ Below W.heap.size W w') := fun W hW hbW => by
                        have h := zzbytes m3 bb bc (.slice sa sn sc) x bs _ W hW (hv0.below hbW).1 hB3.drop (by omega)
                        rw [← hm4] at h
                        exact h
                      have HAn : Hid (At bs m4 (cat encQ (Q.drop (k + 1)) ++ [])) := hB4
                      have zW := BytesAt.below HB4.out hb
                      clear hB1 hB1' hB2 hB3 hB4 hAt vt vq vx z1 z2 z3 hm2 hm3 hm4 hkk hgk hv0
                      go_wp2_with (first
                        | (go_at_call 27; refine Calls.mono (F3.out _ (by assumption) (by assumption)) ?_; rintro _ W7 ⟨rfl, bW7⟩)
                        | (go_at_call 26; have _t := ‹Stage 9›; refine Calls.mono (F2.out _ (by assumption)) ?_; rintro _ W6 ⟨rfl, bW6⟩; have zW6 := BytesAt.below (by assumption) bW6; have bW56 := Below.step (by assumption) bW6; have s3' := cell_below bW56 s3)
                        | (go_at_call 26; refine Calls.mono (F1.out _ (by assumption)) ?_; rintro _ W5 ⟨rfl, bW5⟩; have zW5 := BytesAt.below (by assumption) bW5; have s2' := cell_below bW5 s2; have st9 : Stage 9 := ⟨⟩))
                      exact ⟨⟨k + 1, m4, by omega, by go_num, rfl, rfl, HAn, Below.step (Below.step hb bW56) bW7⟩, by simp [intOf]; omega⟩
                    · have hAe := hAt.out
                      rw [cat_end encQ Q k (by omega), List.nil_append] at hAe
                      have hme : m = bs.length := At.fin hAe
                      clear hAt hAe
                      subst hme
                      go_wp2
                      go_ret
                      exact ⟨rfl, Below.step bw4.out hb⟩
end Go.Proofs.Qxb6605845a.Ec
