import Derived.Test.Qxb6605845aS11
namespace Go.Proofs.Qxb6605845a.Ec
set_option linter.unusedVariables false
set_option linter.unusedSimpArgs false
open Go.RowKit

set_option maxHeartbeats 3200000 in
set_option maxRecDepth 100000 in
theorem encode_4 (B rb : Nat) (pv : Value) (rdb rc wrb wc : Nat) (r : RecD) (w : World) (h : RecAt w B rb 4 pv rdb rc wrb wc r) (ok : RecOk r) (hB : B ≤ w.heap.size) (hlen : (enc 4 r).length ≤ 1073741824) :
    Calls Try.prog 32 #[.pointer (some ⟨rb, 0, none⟩)] w fun e w' => ∃ v', e = .returned v' ∧ Row w' w.heap.size v' (enc 4 r) ∧ Below w.heap.size w w' := by
  obtain ⟨i0, hi, hz0, hz1, hz2⟩ := info5
  have HR : Hid (RecAt w B rb 4 pv rdb rc wrb wc r) := h
  have H33 : Hid (∀ W, Below w.heap.size w W → Calls Try.prog 33 #[.pointer (some ⟨rb, 0, none⟩)] W fun e w' => e = .returned (.int .i64 (enc 4 r).length) ∧ Below w.heap.size w w') := fun W hW => (size_any 4 B rb pv rdb rc wrb wc r W (HR.out.belowB (hW.mono hB)) ok (Nat.le_trans hB hW.size) (by omega)).mono fun e w' hh => ⟨hh.1, hW.trans (hh.2.mono hW.size)⟩
  have H33w : Hid (∀ W, Below w.heap.size w W → Calls Try.prog 33 #[.pointer (some ⟨rb, 0, none⟩)] W fun e w' => e = .returned (.int .i64 (enc 4 r).length) ∧ Below w.heap.size w w' ∧ Below W.heap.size W w') := fun W hW => (size_any 4 B rb pv rdb rc wrb wc r W (HR.out.belowB (hW.mono hB)) ok (Nat.le_trans hB hW.size) (by omega)).mono fun e w' hh => ⟨hh.1, hW.trans (hh.2.mono hW.size), hh.2⟩
  have c0 : w.cell? ⟨rb, 0, none⟩ = some (.int .u8 4) := h.c0
  have hrb : rb < w.heap.size := Nat.lt_of_lt_of_le h.rbB hB
  have HRb : Hid (∀ W, Below w.heap.size w W → RecAt W B rb 4 pv rdb rc wrb wc r) := fun W hW => RecAt.belowB HR.out (hW.mono hB)
  clear h
  go_enter Try.func32, Try.ntmps32
  go_upto_region 1 with fail
  go_cut [3] from 10 to 18 (fun v wx => First w 4 v wx)
  case first =>
    refine wp_region_held_drew (S := (fun W => W.cell? ⟨rb, 0, none⟩ = some (.int .u8 4) ∧ Below w.heap.size w W)) (by kernel_rfl) ?_ (fun hHeld => ?_)
    · exact ⟨c0, (Below.refl _ _).drew⟩
    refine wpAnyH_take (i := 0) (v := ?_) rfl (by kernel_rfl) (by kernel_rfl) (by kernel_rfl) (fun _ _ _ h => h) (Or.inl ⟨by rfl, ?_⟩) hHeld ?_
    rotate_left
    · intro w0 hSw; (try dsimp only at hSw); have hSw0 := hSw.1; go_simp <;> with_reducible rfl
    try simp only [Act.put, List.getElem_toArray, List.getElem_cons_zero, List.getElem_cons_succ, List.setIfInBounds_toArray, List.set_cons_zero, List.set_cons_succ]
    refine wpAnyH_take (i := 3) (v := ?_) rfl (by kernel_rfl) (by kernel_rfl) (by kernel_rfl) (fun _ _ _ h => h) (Or.inl ⟨by rfl, ?_⟩) hHeld ?_
    rotate_left
    · intro w0 hSw; (try dsimp only at hSw); have hSw0 := hSw.1; go_simp <;> with_reducible rfl
    try simp only [Act.put, List.getElem_toArray, List.getElem_cons_zero, List.getElem_cons_succ, List.setIfInBounds_toArray, List.set_cons_zero, List.set_cons_succ]
    refine wpAnyH_take (i := 4) (v := ?_) rfl (by kernel_rfl) (by kernel_rfl) (by kernel_rfl) (fun _ _ _ h => h) (Or.inl ⟨by rfl, ?_⟩) hHeld ?_
    rotate_left
    · intro w0 hSw; (try dsimp only at hSw); have hSw0 := hSw.1; go_simp <;> with_reducible rfl
    try simp only [Act.put, List.getElem_toArray, List.getElem_cons_zero, List.getElem_cons_succ, List.setIfInBounds_toArray, List.set_cons_zero, List.set_cons_succ]
    refine wpAnyH_take (i := 5) (v := ?_) rfl (by kernel_rfl) (by kernel_rfl) (by kernel_rfl) (fun _ _ _ h => h) (Or.inl ⟨by rfl, ?_⟩) hHeld ?_
    rotate_left
    · intro w0 hSw; (try dsimp only at hSw); have hSw0 := hSw.1; go_simp <;> with_reducible rfl
    try simp only [Act.put, List.getElem_toArray, List.getElem_cons_zero, List.getElem_cons_succ, List.setIfInBounds_toArray, List.set_cons_zero, List.set_cons_succ]
    refine wpAnyH_take (i := 6) (v := ?_) rfl (by kernel_rfl) (by kernel_rfl) (by kernel_rfl) (fun _ _ _ h => h) (Or.inl ⟨by rfl, ?_⟩) hHeld ?_
    rotate_left
    · intro w0 hSw; (try dsimp only at hSw); have hSw0 := hSw.1; go_simp <;> with_reducible rfl
    try simp only [Act.put, List.getElem_toArray, List.getElem_cons_zero, List.getElem_cons_succ, List.setIfInBounds_toArray, List.set_cons_zero, List.set_cons_succ]
    refine wpAnyH_ready (rs := [1, 7]) (by kernel_rfl) (by simp) ?_
    refine AllReadyH.cons rfl (fun K hK => ?_) (AllReadyH.cons rfl (fun K hK => ?_) AllReadyH.nil)
    · -- the call first
      rw [if_pos (by simp [Region.wanted])]
      go_simp
      refine (H33.out _ hHeld.2).mono ?_
      rintro e w1 ⟨rfl, hb1⟩
      refine hK.out _ _ ⟨by rw [hb1.cell hrb]; exact c0, hb1⟩ (fun hHeld => ?_)
      clear hK K
      try simp only [Act.put, List.getElem_toArray, List.getElem_cons_zero, List.getElem_cons_succ, List.setIfInBounds_toArray, List.set_cons_zero, List.set_cons_succ]
      refine wpAnyH_ready (rs := [2, 7]) (by kernel_rfl) (by simp) ?_
      refine AllReadyH.cons rfl (fun K hK => ?_) (AllReadyH.cons rfl (fun K hK => ?_) AllReadyH.nil)
      · -- then make, then the two bytes
        rw [if_pos (by simp [Region.wanted])]
        refine wp_make_own _ _ _ 33 (by rfl) w.heap.size 5 i0 (.int .u8 0) 1 Try.underlying33 hi hz0 hz1 .i64 .i64 (enc 4 r).length (by rfl) (by rfl) (by rw [hz2]; omega) (by unfold maxLen; omega) hHeld.2.size ?_
        intro w2 hown hgr
        have hbM := below_none hHeld.2 hgr hHeld.2.size
        refine hK.out _ _ ⟨by rw [hbM.cell hrb]; exact c0, hbM⟩ (fun hHeld => ?_)
        clear hK K
        try simp only [Act.put, List.getElem_toArray, List.getElem_cons_zero, List.getElem_cons_succ, List.setIfInBounds_toArray, List.set_cons_zero, List.set_cons_succ]
        refine wpAnyH_ready (rs := [7]) (by kernel_rfl) (by simp) ?_
        refine AllReadyH.cons rfl (fun K hK => ?_) AllReadyH.nil
        rw [if_pos (by simp [Region.wanted])]
        go_simp
        have hbB1 := hHeld.2.alloc (o := .cells #[.int .u8 2, .int .u8 4] 5) hHeld.2.size
        refine hK.out _ _ ⟨by rw [hbB1.cell hrb]; exact c0, hbB1⟩ (fun hHeld => ?_)
        clear hK K
        try simp only [Act.put, List.getElem_toArray, List.getElem_cons_zero, List.getElem_cons_succ, List.setIfInBounds_toArray, List.set_cons_zero, List.set_cons_succ]
        refine wpAnyH_ready (rs := [8]) (by kernel_rfl) (by simp) ?_
        refine AllReadyH.cons rfl (fun K hK => ?_) AllReadyH.nil
        rw [if_pos (by simp [Region.wanted])]
        refine wp_append_own _ _ _ 33 (by rfl) w.heap.size 5 i0 (.int .u8 0) 1 1 Try.underlying33 hi hz0 hz1 hz2 rfl (by decide) _ _ _ (by rfl) (hown.alloc _) ⟨w2.heap.size, 0, none⟩ 2 2 [Value.int .u8 2, Value.int .u8 4] (by rfl) rfl (news2 (by simp) (by simp)) news2_one (by unfold maxLen; omega) (by omega) hHeld.2.size ?_
        intro v3 w3 hown3 hgr3 _
        have hF := first_of (k := 4) (g := 0) (c := 0) (by omega) (hown.alloc _) hHeld.2 hgr3 hown3
        refine hK.out _ _ ⟨by rw [hF.2.cell hrb]; exact c0, hF.2⟩ (fun hHeld => ?_)
        clear hK K
        try simp only [Act.put, List.getElem_toArray, List.getElem_cons_zero, List.getElem_cons_succ, List.setIfInBounds_toArray, List.set_cons_zero, List.set_cons_succ]
        refine wpAnyH_take (i := 9) (v := ?_) rfl (by kernel_rfl) (by kernel_rfl) (by kernel_rfl) (fun _ _ _ h => h) (Or.inl ⟨by rfl, ?_⟩) hHeld ?_
        rotate_left
        · intro w0 hSw; (try dsimp only at hSw); have hSw0 := hSw.1; go_simp <;> with_reducible rfl
        try simp only [Act.put, List.getElem_toArray, List.getElem_cons_zero, List.getElem_cons_succ, List.setIfInBounds_toArray, List.set_cons_zero, List.set_cons_succ]
        refine wpAnyH_done (by kernel_rfl) ?_ _
        go_wp2_with fail
        go_meet
        exact hF
      · -- the two bytes, then make
        rw [if_pos (by simp [Region.wanted])]
        go_simp
        have hbB1 := hHeld.2.alloc (o := .cells #[.int .u8 2, .int .u8 4] 5) hHeld.2.size
        refine hK.out _ _ ⟨by rw [hbB1.cell hrb]; exact c0, hbB1⟩ (fun hHeld => ?_)
        clear hK K
        try simp only [Act.put, List.getElem_toArray, List.getElem_cons_zero, List.getElem_cons_succ, List.setIfInBounds_toArray, List.set_cons_zero, List.set_cons_succ]
        refine wpAnyH_ready (rs := [2]) (by kernel_rfl) (by simp) ?_
        refine AllReadyH.cons rfl (fun K hK => ?_) AllReadyH.nil
        rw [if_pos (by simp [Region.wanted])]
        refine wp_make_own _ _ _ 33 (by rfl) w.heap.size 5 i0 (.int .u8 0) 1 Try.underlying33 hi hz0 hz1 .i64 .i64 (enc 4 r).length (by rfl) (by rfl) (by rw [hz2]; omega) (by unfold maxLen; omega) hHeld.2.size ?_
        intro w2 hown hgr
        have hbM := below_none hHeld.2 hgr hHeld.2.size
        refine hK.out _ _ ⟨by rw [hbM.cell hrb]; exact c0, hbM⟩ (fun hHeld => ?_)
        clear hK K
        try simp only [Act.put, List.getElem_toArray, List.getElem_cons_zero, List.getElem_cons_succ, List.setIfInBounds_toArray, List.set_cons_zero, List.set_cons_succ]
        have n0 := hgr.cell (a := ⟨w1.heap.size, 0, none⟩) (v := .int .u8 2) (by simp) (by simp)
        have n1 := hgr.cell (a := ⟨w1.heap.size, 1, none⟩) (v := .int .u8 4) (by simp) (by simp)
        refine wpAnyH_ready (rs := [8]) (by kernel_rfl) (by simp) ?_
        refine AllReadyH.cons rfl (fun K hK => ?_) AllReadyH.nil
        rw [if_pos (by simp [Region.wanted])]
        refine wp_append_own _ _ _ 33 (by rfl) w.heap.size 5 i0 (.int .u8 0) 1 1 Try.underlying33 hi hz0 hz1 hz2 rfl (by decide) _ _ _ (by rfl) hown ⟨w1.heap.size, 0, none⟩ 2 2 [Value.int .u8 2, Value.int .u8 4] (by rfl) rfl (news2 n0 n1) news2_one (by unfold maxLen; omega) (by omega) hHeld.2.size ?_
        intro v3 w3 hown3 hgr3 _
        have hF := first_of (k := 4) (g := 0) (c := 0) (by omega) hown hHeld.2 hgr3 hown3
        refine hK.out _ _ ⟨by rw [hF.2.cell hrb]; exact c0, hF.2⟩ (fun hHeld => ?_)
        clear hK K
        try simp only [Act.put, List.getElem_toArray, List.getElem_cons_zero, List.getElem_cons_succ, List.setIfInBounds_toArray, List.set_cons_zero, List.set_cons_succ]
        refine wpAnyH_take (i := 9) (v := ?_) rfl (by kernel_rfl) (by kernel_rfl) (by kernel_rfl) (fun _ _ _ h => h) (Or.inl ⟨by rfl, ?_⟩) hHeld ?_
        rotate_left
        · intro w0 hSw; (try dsimp only at hSw); have hSw0 := hSw.1; go_simp <;> with_reducible rfl
        try simp only [Act.put, List.getElem_toArray, List.getElem_cons_zero, List.getElem_cons_succ, List.setIfInBounds_toArray, List.set_cons_zero, List.set_cons_succ]
        refine wpAnyH_done (by kernel_rfl) ?_ _
        go_wp2_with fail
        go_meet
        exact hF
    · -- the two bytes first
      rw [if_pos (by simp [Region.wanted])]
      go_simp
      have hbB1 : Below w.heap.size w ((w.alloc (.cells #[.int .u8 2, .int .u8 4] 5)).drew) := ((Below.refl _ w).alloc (Nat.le_refl _) _).drew
      refine hK.out _ _ ⟨by rw [hbB1.cell hrb]; exact c0, hbB1⟩ (fun hHeld => ?_)
      clear hK K
      try simp only [Act.put, List.getElem_toArray, List.getElem_cons_zero, List.getElem_cons_succ, List.setIfInBounds_toArray, List.set_cons_zero, List.set_cons_succ]
      refine wpAnyH_ready (rs := [1]) (by kernel_rfl) (by simp) ?_
      refine AllReadyH.cons rfl (fun K hK => ?_) AllReadyH.nil
      rw [if_pos (by simp [Region.wanted])]
      go_simp
      refine (H33w.out _ hHeld.2).mono ?_
      rintro e w1 ⟨rfl, hb1, hbW⟩
      refine hK.out _ _ ⟨by rw [hb1.cell hrb]; exact c0, hb1⟩ (fun hHeld => ?_)
      clear hK K
      try simp only [Act.put, List.getElem_toArray, List.getElem_cons_zero, List.getElem_cons_succ, List.setIfInBounds_toArray, List.set_cons_zero, List.set_cons_succ]
      have n0 : w1.cell? ⟨w.heap.size, 0, none⟩ = some (.int .u8 2) := by rw [hbW.cell (by simp)]; simp
      have n1 : w1.cell? ⟨w.heap.size, 1, none⟩ = some (.int .u8 4) := by rw [hbW.cell (by simp)]; simp
      refine wpAnyH_ready (rs := [2]) (by kernel_rfl) (by simp) ?_
      refine AllReadyH.cons rfl (fun K hK => ?_) AllReadyH.nil
      rw [if_pos (by simp [Region.wanted])]
      refine wp_make_own _ _ _ 33 (by rfl) w.heap.size 5 i0 (.int .u8 0) 1 Try.underlying33 hi hz0 hz1 .i64 .i64 (enc 4 r).length (by rfl) (by rfl) (by rw [hz2]; omega) (by unfold maxLen; omega) hHeld.2.size ?_
      intro w2 hown hgr
      have hbM := below_none hHeld.2 hgr hHeld.2.size
      refine hK.out _ _ ⟨by rw [hbM.cell hrb]; exact c0, hbM⟩ (fun hHeld => ?_)
      clear hK K
      try simp only [Act.put, List.getElem_toArray, List.getElem_cons_zero, List.getElem_cons_succ, List.setIfInBounds_toArray, List.set_cons_zero, List.set_cons_succ]
      have n0' := hgr.cell n0 (by simp)
      have n1' := hgr.cell n1 (by simp)
      refine wpAnyH_ready (rs := [8]) (by kernel_rfl) (by simp) ?_
      refine AllReadyH.cons rfl (fun K hK => ?_) AllReadyH.nil
      rw [if_pos (by simp [Region.wanted])]
      refine wp_append_own _ _ _ 33 (by rfl) w.heap.size 5 i0 (.int .u8 0) 1 1 Try.underlying33 hi hz0 hz1 hz2 rfl (by decide) _ _ _ (by rfl) hown ⟨w.heap.size, 0, none⟩ 2 2 [Value.int .u8 2, Value.int .u8 4] (by rfl) rfl (news2 n0' n1') news2_one (by unfold maxLen; omega) (by omega) hHeld.2.size ?_
      intro v3 w3 hown3 hgr3 _
      have hF := first_of (k := 4) (g := 0) (c := 0) (by omega) hown hHeld.2 hgr3 hown3
      refine hK.out _ _ ⟨by rw [hF.2.cell hrb]; exact c0, hF.2⟩ (fun hHeld => ?_)
      clear hK K
      try simp only [Act.put, List.getElem_toArray, List.getElem_cons_zero, List.getElem_cons_succ, List.setIfInBounds_toArray, List.set_cons_zero, List.set_cons_succ]
      refine wpAnyH_take (i := 9) (v := ?_) rfl (by kernel_rfl) (by kernel_rfl) (by kernel_rfl) (fun _ _ _ h => h) (Or.inl ⟨by rfl, ?_⟩) hHeld ?_
      rotate_left
      · intro w0 hSw; (try dsimp only at hSw); have hSw0 := hSw.1; go_simp <;> with_reducible rfl
      try simp only [Act.put, List.getElem_toArray, List.getElem_cons_zero, List.getElem_cons_succ, List.setIfInBounds_toArray, List.set_cons_zero, List.set_cons_succ]
      refine wpAnyH_done (by kernel_rfl) ?_ _
      go_wp2_with fail
      go_meet
      exact hF
  case rest =>
    obtain ⟨hrow0, hbel0⟩ := hcut
    clear H33 H33w hi hz0 hz1 hz2 hlen
    have d0 := (HRb.out _ hbel0).c0
    have hD := encD_len ok
    obtain ⟨b1, hb1⟩ : ∃ b, b = [2, (4 : Nat).toUInt8] ++ encD r.site r.node r.idSeq := ⟨_, rfl⟩
    have hl1 : b1.length ≤ 1048700 := by rw [hb1]; simp; omega
    have H39 : Hid (∀ v W, Row W w.heap.size v [2, (4 : Nat).toUInt8] → Below w.heap.size w W → Calls Try.prog 39 #[.pointer (some ⟨rb, 1, none⟩), v] W (Out w.heap.size b1 W)) := fun v W h1 h2 => by
      rw [hb1]; exact appendWire w.heap.size rb 1 r.site r.node r.idSeq v _ W (HRb.out W h2).id hrb ok.idSeq h1 h2.size (by have := ok.site; simp; omega)
    have hI := ok.parts
    have hI2 := ok.partsL
    obtain ⟨b2, hb2⟩ : ∃ b, b = b1 ++ encI r.parts := ⟨_, rfl⟩
    have hl2 : b2.length ≤ 20000000 := by rw [hb2, List.length_append]; omega
    have H40 : Hid (∀ v W, Row W w.heap.size v b1 → Below w.heap.size w W → Calls Try.prog 40 #[v, pv] W (Out w.heap.size b2 W)) := fun v W h1 h2 => by
      rw [hb2]; exact appendIndexes w.heap.size v pv r.parts b1 W (HRb.out W h2).parts (fun a n c hh => Nat.lt_of_lt_of_le ((HRb.out W h2).partsB a n c hh) hB) h1 h2.size (by omega)
    go_wp2_with (first
      | (go_at_call 39; refine Calls.mono (H39.out _ _ (by assumption) (by assumption)) ?_; rintro _ w1 ⟨v1, rfl, hrow1, hap1⟩; have hbel1 := Below.trans (by assumption) hap1.bel; have d0_1 := (HRb.out _ hbel1).c0; have d4_1 := (HRb.out _ hbel1).c4; have d5_1 := (HRb.out _ hbel1).c5; have d6_1 := (HRb.out _ hbel1).c6; have d7_1 := (HRb.out _ hbel1).c7)
      | (go_at_call 40; refine Calls.mono (H40.out _ _ (by assumption) (by assumption)) ?_; rintro _ w2 ⟨v2, rfl, hrow2, hap2⟩; have hbel2 := Below.trans (by assumption) hap2.bel; have d0_2 := (HRb.out _ hbel2).c0; have d4_2 := (HRb.out _ hbel2).c4; have d5_2 := (HRb.out _ hbel2).c5; have d6_2 := (HRb.out _ hbel2).c6; have d7_2 := (HRb.out _ hbel2).c7))
    go_ret
    refine ⟨_, rfl, ?_, hbel2⟩
    have he : enc 4 r = b2 := by rw [hb2, hb1]; simp [enc, encTail]
    rw [he]; exact hrow2

set_option maxHeartbeats 3200000 in
set_option maxRecDepth 100000 in
theorem encode_5 (B rb : Nat) (pv : Value) (rdb rc wrb wc : Nat) (r : RecD) (w : World) (h : RecAt w B rb 5 pv rdb rc wrb wc r) (ok : RecOk r) (hB : B ≤ w.heap.size) (hlen : (enc 5 r).length ≤ 1073741824) :
    Calls Try.prog 32 #[.pointer (some ⟨rb, 0, none⟩)] w fun e w' => ∃ v', e = .returned v' ∧ Row w' w.heap.size v' (enc 5 r) ∧ Below w.heap.size w w' := by
  obtain ⟨i0, hi, hz0, hz1, hz2⟩ := info5
  have HR : Hid (RecAt w B rb 5 pv rdb rc wrb wc r) := h
  have H33 : Hid (∀ W, Below w.heap.size w W → Calls Try.prog 33 #[.pointer (some ⟨rb, 0, none⟩)] W fun e w' => e = .returned (.int .i64 (enc 5 r).length) ∧ Below w.heap.size w w') := fun W hW => (size_any 5 B rb pv rdb rc wrb wc r W (HR.out.belowB (hW.mono hB)) ok (Nat.le_trans hB hW.size) (by omega)).mono fun e w' hh => ⟨hh.1, hW.trans (hh.2.mono hW.size)⟩
  have H33w : Hid (∀ W, Below w.heap.size w W → Calls Try.prog 33 #[.pointer (some ⟨rb, 0, none⟩)] W fun e w' => e = .returned (.int .i64 (enc 5 r).length) ∧ Below w.heap.size w w' ∧ Below W.heap.size W w') := fun W hW => (size_any 5 B rb pv rdb rc wrb wc r W (HR.out.belowB (hW.mono hB)) ok (Nat.le_trans hB hW.size) (by omega)).mono fun e w' hh => ⟨hh.1, hW.trans (hh.2.mono hW.size), hh.2⟩
  have c0 : w.cell? ⟨rb, 0, none⟩ = some (.int .u8 5) := h.c0
  have hrb : rb < w.heap.size := Nat.lt_of_lt_of_le h.rbB hB
  have HRb : Hid (∀ W, Below w.heap.size w W → RecAt W B rb 5 pv rdb rc wrb wc r) := fun W hW => RecAt.belowB HR.out (hW.mono hB)
  clear h
  go_enter Try.func32, Try.ntmps32
  go_upto_region 1 with fail
  go_cut [3] from 10 to 18 (fun v wx => First w 5 v wx)
  case first =>
    refine wp_region_held_drew (S := (fun W => W.cell? ⟨rb, 0, none⟩ = some (.int .u8 5) ∧ Below w.heap.size w W)) (by kernel_rfl) ?_ (fun hHeld => ?_)
    · exact ⟨c0, (Below.refl _ _).drew⟩
    refine wpAnyH_take (i := 0) (v := ?_) rfl (by kernel_rfl) (by kernel_rfl) (by kernel_rfl) (fun _ _ _ h => h) (Or.inl ⟨by rfl, ?_⟩) hHeld ?_
    rotate_left
    · intro w0 hSw; (try dsimp only at hSw); have hSw0 := hSw.1; go_simp <;> with_reducible rfl
    try simp only [Act.put, List.getElem_toArray, List.getElem_cons_zero, List.getElem_cons_succ, List.setIfInBounds_toArray, List.set_cons_zero, List.set_cons_succ]
    refine wpAnyH_take (i := 3) (v := ?_) rfl (by kernel_rfl) (by kernel_rfl) (by kernel_rfl) (fun _ _ _ h => h) (Or.inl ⟨by rfl, ?_⟩) hHeld ?_
    rotate_left
    · intro w0 hSw; (try dsimp only at hSw); have hSw0 := hSw.1; go_simp <;> with_reducible rfl
    try simp only [Act.put, List.getElem_toArray, List.getElem_cons_zero, List.getElem_cons_succ, List.setIfInBounds_toArray, List.set_cons_zero, List.set_cons_succ]
    refine wpAnyH_take (i := 4) (v := ?_) rfl (by kernel_rfl) (by kernel_rfl) (by kernel_rfl) (fun _ _ _ h => h) (Or.inl ⟨by rfl, ?_⟩) hHeld ?_
    rotate_left
    · intro w0 hSw; (try dsimp only at hSw); have hSw0 := hSw.1; go_simp <;> with_reducible rfl
    try simp only [Act.put, List.getElem_toArray, List.getElem_cons_zero, List.getElem_cons_succ, List.setIfInBounds_toArray, List.set_cons_zero, List.set_cons_succ]
    refine wpAnyH_take (i := 5) (v := ?_) rfl (by kernel_rfl) (by kernel_rfl) (by kernel_rfl) (fun _ _ _ h => h) (Or.inl ⟨by rfl, ?_⟩) hHeld ?_
    rotate_left
    · intro w0 hSw; (try dsimp only at hSw); have hSw0 := hSw.1; go_simp <;> with_reducible rfl
    try simp only [Act.put, List.getElem_toArray, List.getElem_cons_zero, List.getElem_cons_succ, List.setIfInBounds_toArray, List.set_cons_zero, List.set_cons_succ]
    refine wpAnyH_take (i := 6) (v := ?_) rfl (by kernel_rfl) (by kernel_rfl) (by kernel_rfl) (fun _ _ _ h => h) (Or.inl ⟨by rfl, ?_⟩) hHeld ?_
    rotate_left
    · intro w0 hSw; (try dsimp only at hSw); have hSw0 := hSw.1; go_simp <;> with_reducible rfl
    try simp only [Act.put, List.getElem_toArray, List.getElem_cons_zero, List.getElem_cons_succ, List.setIfInBounds_toArray, List.set_cons_zero, List.set_cons_succ]
    refine wpAnyH_ready (rs := [1, 7]) (by kernel_rfl) (by simp) ?_
    refine AllReadyH.cons rfl (fun K hK => ?_) (AllReadyH.cons rfl (fun K hK => ?_) AllReadyH.nil)
    · -- the call first
      rw [if_pos (by simp [Region.wanted])]
      go_simp
      refine (H33.out _ hHeld.2).mono ?_
      rintro e w1 ⟨rfl, hb1⟩
      refine hK.out _ _ ⟨by rw [hb1.cell hrb]; exact c0, hb1⟩ (fun hHeld => ?_)
      clear hK K
      try simp only [Act.put, List.getElem_toArray, List.getElem_cons_zero, List.getElem_cons_succ, List.setIfInBounds_toArray, List.set_cons_zero, List.set_cons_succ]
      refine wpAnyH_ready (rs := [2, 7]) (by kernel_rfl) (by simp) ?_
      refine AllReadyH.cons rfl (fun K hK => ?_) (AllReadyH.cons rfl (fun K hK => ?_) AllReadyH.nil)
      · -- then make, then the two bytes
        rw [if_pos (by simp [Region.wanted])]
        refine wp_make_own _ _ _ 33 (by rfl) w.heap.size 5 i0 (.int .u8 0) 1 Try.underlying33 hi hz0 hz1 .i64 .i64 (enc 5 r).length (by rfl) (by rfl) (by rw [hz2]; omega) (by unfold maxLen; omega) hHeld.2.size ?_
        intro w2 hown hgr
        have hbM := below_none hHeld.2 hgr hHeld.2.size
        refine hK.out _ _ ⟨by rw [hbM.cell hrb]; exact c0, hbM⟩ (fun hHeld => ?_)
        clear hK K
        try simp only [Act.put, List.getElem_toArray, List.getElem_cons_zero, List.getElem_cons_succ, List.setIfInBounds_toArray, List.set_cons_zero, List.set_cons_succ]
        refine wpAnyH_ready (rs := [7]) (by kernel_rfl) (by simp) ?_
        refine AllReadyH.cons rfl (fun K hK => ?_) AllReadyH.nil
        rw [if_pos (by simp [Region.wanted])]
        go_simp
        have hbB1 := hHeld.2.alloc (o := .cells #[.int .u8 2, .int .u8 5] 5) hHeld.2.size
        refine hK.out _ _ ⟨by rw [hbB1.cell hrb]; exact c0, hbB1⟩ (fun hHeld => ?_)
        clear hK K
        try simp only [Act.put, List.getElem_toArray, List.getElem_cons_zero, List.getElem_cons_succ, List.setIfInBounds_toArray, List.set_cons_zero, List.set_cons_succ]
        refine wpAnyH_ready (rs := [8]) (by kernel_rfl) (by simp) ?_
        refine AllReadyH.cons rfl (fun K hK => ?_) AllReadyH.nil
        rw [if_pos (by simp [Region.wanted])]
        refine wp_append_own _ _ _ 33 (by rfl) w.heap.size 5 i0 (.int .u8 0) 1 1 Try.underlying33 hi hz0 hz1 hz2 rfl (by decide) _ _ _ (by rfl) (hown.alloc _) ⟨w2.heap.size, 0, none⟩ 2 2 [Value.int .u8 2, Value.int .u8 5] (by rfl) rfl (news2 (by simp) (by simp)) news2_one (by unfold maxLen; omega) (by omega) hHeld.2.size ?_
        intro v3 w3 hown3 hgr3 _
        have hF := first_of (k := 5) (g := 0) (c := 0) (by omega) (hown.alloc _) hHeld.2 hgr3 hown3
        refine hK.out _ _ ⟨by rw [hF.2.cell hrb]; exact c0, hF.2⟩ (fun hHeld => ?_)
        clear hK K
        try simp only [Act.put, List.getElem_toArray, List.getElem_cons_zero, List.getElem_cons_succ, List.setIfInBounds_toArray, List.set_cons_zero, List.set_cons_succ]
        refine wpAnyH_take (i := 9) (v := ?_) rfl (by kernel_rfl) (by kernel_rfl) (by kernel_rfl) (fun _ _ _ h => h) (Or.inl ⟨by rfl, ?_⟩) hHeld ?_
        rotate_left
        · intro w0 hSw; (try dsimp only at hSw); have hSw0 := hSw.1; go_simp <;> with_reducible rfl
        try simp only [Act.put, List.getElem_toArray, List.getElem_cons_zero, List.getElem_cons_succ, List.setIfInBounds_toArray, List.set_cons_zero, List.set_cons_succ]
        refine wpAnyH_done (by kernel_rfl) ?_ _
        go_wp2_with fail
        go_meet
        exact hF
      · -- the two bytes, then make
        rw [if_pos (by simp [Region.wanted])]
        go_simp
        have hbB1 := hHeld.2.alloc (o := .cells #[.int .u8 2, .int .u8 5] 5) hHeld.2.size
        refine hK.out _ _ ⟨by rw [hbB1.cell hrb]; exact c0, hbB1⟩ (fun hHeld => ?_)
        clear hK K
        try simp only [Act.put, List.getElem_toArray, List.getElem_cons_zero, List.getElem_cons_succ, List.setIfInBounds_toArray, List.set_cons_zero, List.set_cons_succ]
        refine wpAnyH_ready (rs := [2]) (by kernel_rfl) (by simp) ?_
        refine AllReadyH.cons rfl (fun K hK => ?_) AllReadyH.nil
        rw [if_pos (by simp [Region.wanted])]
        refine wp_make_own _ _ _ 33 (by rfl) w.heap.size 5 i0 (.int .u8 0) 1 Try.underlying33 hi hz0 hz1 .i64 .i64 (enc 5 r).length (by rfl) (by rfl) (by rw [hz2]; omega) (by unfold maxLen; omega) hHeld.2.size ?_
        intro w2 hown hgr
        have hbM := below_none hHeld.2 hgr hHeld.2.size
        refine hK.out _ _ ⟨by rw [hbM.cell hrb]; exact c0, hbM⟩ (fun hHeld => ?_)
        clear hK K
        try simp only [Act.put, List.getElem_toArray, List.getElem_cons_zero, List.getElem_cons_succ, List.setIfInBounds_toArray, List.set_cons_zero, List.set_cons_succ]
        have n0 := hgr.cell (a := ⟨w1.heap.size, 0, none⟩) (v := .int .u8 2) (by simp) (by simp)
        have n1 := hgr.cell (a := ⟨w1.heap.size, 1, none⟩) (v := .int .u8 5) (by simp) (by simp)
        refine wpAnyH_ready (rs := [8]) (by kernel_rfl) (by simp) ?_
        refine AllReadyH.cons rfl (fun K hK => ?_) AllReadyH.nil
        rw [if_pos (by simp [Region.wanted])]
        refine wp_append_own _ _ _ 33 (by rfl) w.heap.size 5 i0 (.int .u8 0) 1 1 Try.underlying33 hi hz0 hz1 hz2 rfl (by decide) _ _ _ (by rfl) hown ⟨w1.heap.size, 0, none⟩ 2 2 [Value.int .u8 2, Value.int .u8 5] (by rfl) rfl (news2 n0 n1) news2_one (by unfold maxLen; omega) (by omega) hHeld.2.size ?_
        intro v3 w3 hown3 hgr3 _
        have hF := first_of (k := 5) (g := 0) (c := 0) (by omega) hown hHeld.2 hgr3 hown3
        refine hK.out _ _ ⟨by rw [hF.2.cell hrb]; exact c0, hF.2⟩ (fun hHeld => ?_)
        clear hK K
        try simp only [Act.put, List.getElem_toArray, List.getElem_cons_zero, List.getElem_cons_succ, List.setIfInBounds_toArray, List.set_cons_zero, List.set_cons_succ]
        refine wpAnyH_take (i := 9) (v := ?_) rfl (by kernel_rfl) (by kernel_rfl) (by kernel_rfl) (fun _ _ _ h => h) (Or.inl ⟨by rfl, ?_⟩) hHeld ?_
        rotate_left
        · intro w0 hSw; (try dsimp only at hSw); have hSw0 := hSw.1; go_simp <;> with_reducible rfl
        try simp only [Act.put, List.getElem_toArray, List.getElem_cons_zero, List.getElem_cons_succ, List.setIfInBounds_toArray, List.set_cons_zero, List.set_cons_succ]
        refine wpAnyH_done (by kernel_rfl) ?_ _
        go_wp2_with fail
        go_meet
        exact hF
    · -- the two bytes first
      rw [if_pos (by simp [Region.wanted])]
      go_simp
      have hbB1 : Below w.heap.size w ((w.alloc (.cells #[.int .u8 2, .int .u8 5] 5)).drew) := ((Below.refl _ w).alloc (Nat.le_refl _) _).drew
      refine hK.out _ _ ⟨by rw [hbB1.cell hrb]; exact c0, hbB1⟩ (fun hHeld => ?_)
      clear hK K
      try simp only [Act.put, List.getElem_toArray, List.getElem_cons_zero, List.getElem_cons_succ, List.setIfInBounds_toArray, List.set_cons_zero, List.set_cons_succ]
      refine wpAnyH_ready (rs := [1]) (by kernel_rfl) (by simp) ?_
      refine AllReadyH.cons rfl (fun K hK => ?_) AllReadyH.nil
      rw [if_pos (by simp [Region.wanted])]
      go_simp
      refine (H33w.out _ hHeld.2).mono ?_
      rintro e w1 ⟨rfl, hb1, hbW⟩
      refine hK.out _ _ ⟨by rw [hb1.cell hrb]; exact c0, hb1⟩ (fun hHeld => ?_)
      clear hK K
      try simp only [Act.put, List.getElem_toArray, List.getElem_cons_zero, List.getElem_cons_succ, List.setIfInBounds_toArray, List.set_cons_zero, List.set_cons_succ]
      have n0 : w1.cell? ⟨w.heap.size, 0, none⟩ = some (.int .u8 2) := by rw [hbW.cell (by simp)]; simp
      have n1 : w1.cell? ⟨w.heap.size, 1, none⟩ = some (.int .u8 5) := by rw [hbW.cell (by simp)]; simp
      refine wpAnyH_ready (rs := [2]) (by kernel_rfl) (by simp) ?_
      refine AllReadyH.cons rfl (fun K hK => ?_) AllReadyH.nil
      rw [if_pos (by simp [Region.wanted])]
      refine wp_make_own _ _ _ 33 (by rfl) w.heap.size 5 i0 (.int .u8 0) 1 Try.underlying33 hi hz0 hz1 .i64 .i64 (enc 5 r).length (by rfl) (by rfl) (by rw [hz2]; omega) (by unfold maxLen; omega) hHeld.2.size ?_
      intro w2 hown hgr
      have hbM := below_none hHeld.2 hgr hHeld.2.size
      refine hK.out _ _ ⟨by rw [hbM.cell hrb]; exact c0, hbM⟩ (fun hHeld => ?_)
      clear hK K
      try simp only [Act.put, List.getElem_toArray, List.getElem_cons_zero, List.getElem_cons_succ, List.setIfInBounds_toArray, List.set_cons_zero, List.set_cons_succ]
      have n0' := hgr.cell n0 (by simp)
      have n1' := hgr.cell n1 (by simp)
      refine wpAnyH_ready (rs := [8]) (by kernel_rfl) (by simp) ?_
      refine AllReadyH.cons rfl (fun K hK => ?_) AllReadyH.nil
      rw [if_pos (by simp [Region.wanted])]
      refine wp_append_own _ _ _ 33 (by rfl) w.heap.size 5 i0 (.int .u8 0) 1 1 Try.underlying33 hi hz0 hz1 hz2 rfl (by decide) _ _ _ (by rfl) hown ⟨w.heap.size, 0, none⟩ 2 2 [Value.int .u8 2, Value.int .u8 5] (by rfl) rfl (news2 n0' n1') news2_one (by unfold maxLen; omega) (by omega) hHeld.2.size ?_
      intro v3 w3 hown3 hgr3 _
      have hF := first_of (k := 5) (g := 0) (c := 0) (by omega) hown hHeld.2 hgr3 hown3
      refine hK.out _ _ ⟨by rw [hF.2.cell hrb]; exact c0, hF.2⟩ (fun hHeld => ?_)
      clear hK K
      try simp only [Act.put, List.getElem_toArray, List.getElem_cons_zero, List.getElem_cons_succ, List.setIfInBounds_toArray, List.set_cons_zero, List.set_cons_succ]
      refine wpAnyH_take (i := 9) (v := ?_) rfl (by kernel_rfl) (by kernel_rfl) (by kernel_rfl) (fun _ _ _ h => h) (Or.inl ⟨by rfl, ?_⟩) hHeld ?_
      rotate_left
      · intro w0 hSw; (try dsimp only at hSw); have hSw0 := hSw.1; go_simp <;> with_reducible rfl
      try simp only [Act.put, List.getElem_toArray, List.getElem_cons_zero, List.getElem_cons_succ, List.setIfInBounds_toArray, List.set_cons_zero, List.set_cons_succ]
      refine wpAnyH_done (by kernel_rfl) ?_ _
      go_wp2_with fail
      go_meet
      exact hF
  case rest =>
    obtain ⟨hrow0, hbel0⟩ := hcut
    clear H33 H33w hi hz0 hz1 hz2 hlen
    have d0 := (HRb.out _ hbel0).c0
    have hD := encD_len ok
    obtain ⟨b1, hb1⟩ : ∃ b, b = [2, (5 : Nat).toUInt8] ++ encD r.site r.node r.idSeq := ⟨_, rfl⟩
    have hl1 : b1.length ≤ 1048700 := by rw [hb1]; simp; omega
    have H39 : Hid (∀ v W, Row W w.heap.size v [2, (5 : Nat).toUInt8] → Below w.heap.size w W → Calls Try.prog 39 #[.pointer (some ⟨rb, 1, none⟩), v] W (Out w.heap.size b1 W)) := fun v W h1 h2 => by
      rw [hb1]; exact appendWire w.heap.size rb 1 r.site r.node r.idSeq v _ W (HRb.out W h2).id hrb ok.idSeq h1 h2.size (by have := ok.site; simp; omega)
    go_wp2_with (first
      | (go_at_call 39; refine Calls.mono (H39.out _ _ (by assumption) (by assumption)) ?_; rintro _ w1 ⟨v1, rfl, hrow1, hap1⟩; have hbel1 := Below.trans (by assumption) hap1.bel; have d0_1 := (HRb.out _ hbel1).c0; have d4_1 := (HRb.out _ hbel1).c4; have d5_1 := (HRb.out _ hbel1).c5; have d6_1 := (HRb.out _ hbel1).c6; have d7_1 := (HRb.out _ hbel1).c7))
    go_ret
    refine ⟨_, rfl, ?_, hbel1⟩
    have he : enc 5 r = b1 := by rw [hb1]; simp [enc, encTail]
    rw [he]; exact hrow1

set_option maxHeartbeats 3200000 in
set_option maxRecDepth 100000 in
theorem encode_6 (B rb : Nat) (pv : Value) (rdb rc wrb wc : Nat) (r : RecD) (w : World) (h : RecAt w B rb 6 pv rdb rc wrb wc r) (ok : RecOk r) (hB : B ≤ w.heap.size) (hlen : (enc 6 r).length ≤ 1073741824) :
    Calls Try.prog 32 #[.pointer (some ⟨rb, 0, none⟩)] w fun e w' => ∃ v', e = .returned v' ∧ Row w' w.heap.size v' (enc 6 r) ∧ Below w.heap.size w w' := by
  obtain ⟨i0, hi, hz0, hz1, hz2⟩ := info5
  have HR : Hid (RecAt w B rb 6 pv rdb rc wrb wc r) := h
  have H33 : Hid (∀ W, Below w.heap.size w W → Calls Try.prog 33 #[.pointer (some ⟨rb, 0, none⟩)] W fun e w' => e = .returned (.int .i64 (enc 6 r).length) ∧ Below w.heap.size w w') := fun W hW => (size_any 6 B rb pv rdb rc wrb wc r W (HR.out.belowB (hW.mono hB)) ok (Nat.le_trans hB hW.size) (by omega)).mono fun e w' hh => ⟨hh.1, hW.trans (hh.2.mono hW.size)⟩
  have H33w : Hid (∀ W, Below w.heap.size w W → Calls Try.prog 33 #[.pointer (some ⟨rb, 0, none⟩)] W fun e w' => e = .returned (.int .i64 (enc 6 r).length) ∧ Below w.heap.size w w' ∧ Below W.heap.size W w') := fun W hW => (size_any 6 B rb pv rdb rc wrb wc r W (HR.out.belowB (hW.mono hB)) ok (Nat.le_trans hB hW.size) (by omega)).mono fun e w' hh => ⟨hh.1, hW.trans (hh.2.mono hW.size), hh.2⟩
  have c0 : w.cell? ⟨rb, 0, none⟩ = some (.int .u8 6) := h.c0
  have hrb : rb < w.heap.size := Nat.lt_of_lt_of_le h.rbB hB
  have HRb : Hid (∀ W, Below w.heap.size w W → RecAt W B rb 6 pv rdb rc wrb wc r) := fun W hW => RecAt.belowB HR.out (hW.mono hB)
  clear h
  go_enter Try.func32, Try.ntmps32
  go_upto_region 1 with fail
  go_cut [3] from 10 to 18 (fun v wx => First w 6 v wx)
  case first =>
    refine wp_region_held_drew (S := (fun W => W.cell? ⟨rb, 0, none⟩ = some (.int .u8 6) ∧ Below w.heap.size w W)) (by kernel_rfl) ?_ (fun hHeld => ?_)
    · exact ⟨c0, (Below.refl _ _).drew⟩
    refine wpAnyH_take (i := 0) (v := ?_) rfl (by kernel_rfl) (by kernel_rfl) (by kernel_rfl) (fun _ _ _ h => h) (Or.inl ⟨by rfl, ?_⟩) hHeld ?_
    rotate_left
    · intro w0 hSw; (try dsimp only at hSw); have hSw0 := hSw.1; go_simp <;> with_reducible rfl
    try simp only [Act.put, List.getElem_toArray, List.getElem_cons_zero, List.getElem_cons_succ, List.setIfInBounds_toArray, List.set_cons_zero, List.set_cons_succ]
    refine wpAnyH_take (i := 3) (v := ?_) rfl (by kernel_rfl) (by kernel_rfl) (by kernel_rfl) (fun _ _ _ h => h) (Or.inl ⟨by rfl, ?_⟩) hHeld ?_
    rotate_left
    · intro w0 hSw; (try dsimp only at hSw); have hSw0 := hSw.1; go_simp <;> with_reducible rfl
    try simp only [Act.put, List.getElem_toArray, List.getElem_cons_zero, List.getElem_cons_succ, List.setIfInBounds_toArray, List.set_cons_zero, List.set_cons_succ]
    refine wpAnyH_take (i := 4) (v := ?_) rfl (by kernel_rfl) (by kernel_rfl) (by kernel_rfl) (fun _ _ _ h => h) (Or.inl ⟨by rfl, ?_⟩) hHeld ?_
    rotate_left
    · intro w0 hSw; (try dsimp only at hSw); have hSw0 := hSw.1; go_simp <;> with_reducible rfl
    try simp only [Act.put, List.getElem_toArray, List.getElem_cons_zero, List.getElem_cons_succ, List.setIfInBounds_toArray, List.set_cons_zero, List.set_cons_succ]
    refine wpAnyH_take (i := 5) (v := ?_) rfl (by kernel_rfl) (by kernel_rfl) (by kernel_rfl) (fun _ _ _ h => h) (Or.inl ⟨by rfl, ?_⟩) hHeld ?_
    rotate_left
    · intro w0 hSw; (try dsimp only at hSw); have hSw0 := hSw.1; go_simp <;> with_reducible rfl
    try simp only [Act.put, List.getElem_toArray, List.getElem_cons_zero, List.getElem_cons_succ, List.setIfInBounds_toArray, List.set_cons_zero, List.set_cons_succ]
    refine wpAnyH_take (i := 6) (v := ?_) rfl (by kernel_rfl) (by kernel_rfl) (by kernel_rfl) (fun _ _ _ h => h) (Or.inl ⟨by rfl, ?_⟩) hHeld ?_
    rotate_left
    · intro w0 hSw; (try dsimp only at hSw); have hSw0 := hSw.1; go_simp <;> with_reducible rfl
    try simp only [Act.put, List.getElem_toArray, List.getElem_cons_zero, List.getElem_cons_succ, List.setIfInBounds_toArray, List.set_cons_zero, List.set_cons_succ]
    refine wpAnyH_ready (rs := [1, 7]) (by kernel_rfl) (by simp) ?_
    refine AllReadyH.cons rfl (fun K hK => ?_) (AllReadyH.cons rfl (fun K hK => ?_) AllReadyH.nil)
    · -- the call first
      rw [if_pos (by simp [Region.wanted])]
      go_simp
      refine (H33.out _ hHeld.2).mono ?_
      rintro e w1 ⟨rfl, hb1⟩
      refine hK.out _ _ ⟨by rw [hb1.cell hrb]; exact c0, hb1⟩ (fun hHeld => ?_)
      clear hK K
      try simp only [Act.put, List.getElem_toArray, List.getElem_cons_zero, List.getElem_cons_succ, List.setIfInBounds_toArray, List.set_cons_zero, List.set_cons_succ]
      refine wpAnyH_ready (rs := [2, 7]) (by kernel_rfl) (by simp) ?_
      refine AllReadyH.cons rfl (fun K hK => ?_) (AllReadyH.cons rfl (fun K hK => ?_) AllReadyH.nil)
      · -- then make, then the two bytes
        rw [if_pos (by simp [Region.wanted])]
        refine wp_make_own _ _ _ 33 (by rfl) w.heap.size 5 i0 (.int .u8 0) 1 Try.underlying33 hi hz0 hz1 .i64 .i64 (enc 6 r).length (by rfl) (by rfl) (by rw [hz2]; omega) (by unfold maxLen; omega) hHeld.2.size ?_
        intro w2 hown hgr
        have hbM := below_none hHeld.2 hgr hHeld.2.size
        refine hK.out _ _ ⟨by rw [hbM.cell hrb]; exact c0, hbM⟩ (fun hHeld => ?_)
        clear hK K
        try simp only [Act.put, List.getElem_toArray, List.getElem_cons_zero, List.getElem_cons_succ, List.setIfInBounds_toArray, List.set_cons_zero, List.set_cons_succ]
        refine wpAnyH_ready (rs := [7]) (by kernel_rfl) (by simp) ?_
        refine AllReadyH.cons rfl (fun K hK => ?_) AllReadyH.nil
        rw [if_pos (by simp [Region.wanted])]
        go_simp
        have hbB1 := hHeld.2.alloc (o := .cells #[.int .u8 2, .int .u8 6] 5) hHeld.2.size
        refine hK.out _ _ ⟨by rw [hbB1.cell hrb]; exact c0, hbB1⟩ (fun hHeld => ?_)
        clear hK K
        try simp only [Act.put, List.getElem_toArray, List.getElem_cons_zero, List.getElem_cons_succ, List.setIfInBounds_toArray, List.set_cons_zero, List.set_cons_succ]
        refine wpAnyH_ready (rs := [8]) (by kernel_rfl) (by simp) ?_
        refine AllReadyH.cons rfl (fun K hK => ?_) AllReadyH.nil
        rw [if_pos (by simp [Region.wanted])]
        refine wp_append_own _ _ _ 33 (by rfl) w.heap.size 5 i0 (.int .u8 0) 1 1 Try.underlying33 hi hz0 hz1 hz2 rfl (by decide) _ _ _ (by rfl) (hown.alloc _) ⟨w2.heap.size, 0, none⟩ 2 2 [Value.int .u8 2, Value.int .u8 6] (by rfl) rfl (news2 (by simp) (by simp)) news2_one (by unfold maxLen; omega) (by omega) hHeld.2.size ?_
        intro v3 w3 hown3 hgr3 _
        have hF := first_of (k := 6) (g := 0) (c := 0) (by omega) (hown.alloc _) hHeld.2 hgr3 hown3
        refine hK.out _ _ ⟨by rw [hF.2.cell hrb]; exact c0, hF.2⟩ (fun hHeld => ?_)
        clear hK K
        try simp only [Act.put, List.getElem_toArray, List.getElem_cons_zero, List.getElem_cons_succ, List.setIfInBounds_toArray, List.set_cons_zero, List.set_cons_succ]
        refine wpAnyH_take (i := 9) (v := ?_) rfl (by kernel_rfl) (by kernel_rfl) (by kernel_rfl) (fun _ _ _ h => h) (Or.inl ⟨by rfl, ?_⟩) hHeld ?_
        rotate_left
        · intro w0 hSw; (try dsimp only at hSw); have hSw0 := hSw.1; go_simp <;> with_reducible rfl
        try simp only [Act.put, List.getElem_toArray, List.getElem_cons_zero, List.getElem_cons_succ, List.setIfInBounds_toArray, List.set_cons_zero, List.set_cons_succ]
        refine wpAnyH_done (by kernel_rfl) ?_ _
        go_wp2_with fail
        go_meet
        exact hF
      · -- the two bytes, then make
        rw [if_pos (by simp [Region.wanted])]
        go_simp
        have hbB1 := hHeld.2.alloc (o := .cells #[.int .u8 2, .int .u8 6] 5) hHeld.2.size
        refine hK.out _ _ ⟨by rw [hbB1.cell hrb]; exact c0, hbB1⟩ (fun hHeld => ?_)
        clear hK K
        try simp only [Act.put, List.getElem_toArray, List.getElem_cons_zero, List.getElem_cons_succ, List.setIfInBounds_toArray, List.set_cons_zero, List.set_cons_succ]
        refine wpAnyH_ready (rs := [2]) (by kernel_rfl) (by simp) ?_
        refine AllReadyH.cons rfl (fun K hK => ?_) AllReadyH.nil
        rw [if_pos (by simp [Region.wanted])]
        refine wp_make_own _ _ _ 33 (by rfl) w.heap.size 5 i0 (.int .u8 0) 1 Try.underlying33 hi hz0 hz1 .i64 .i64 (enc 6 r).length (by rfl) (by rfl) (by rw [hz2]; omega) (by unfold maxLen; omega) hHeld.2.size ?_
        intro w2 hown hgr
        have hbM := below_none hHeld.2 hgr hHeld.2.size
        refine hK.out _ _ ⟨by rw [hbM.cell hrb]; exact c0, hbM⟩ (fun hHeld => ?_)
        clear hK K
        try simp only [Act.put, List.getElem_toArray, List.getElem_cons_zero, List.getElem_cons_succ, List.setIfInBounds_toArray, List.set_cons_zero, List.set_cons_succ]
        have n0 := hgr.cell (a := ⟨w1.heap.size, 0, none⟩) (v := .int .u8 2) (by simp) (by simp)
        have n1 := hgr.cell (a := ⟨w1.heap.size, 1, none⟩) (v := .int .u8 6) (by simp) (by simp)
        refine wpAnyH_ready (rs := [8]) (by kernel_rfl) (by simp) ?_
        refine AllReadyH.cons rfl (fun K hK => ?_) AllReadyH.nil
        rw [if_pos (by simp [Region.wanted])]
        refine wp_append_own _ _ _ 33 (by rfl) w.heap.size 5 i0 (.int .u8 0) 1 1 Try.underlying33 hi hz0 hz1 hz2 rfl (by decide) _ _ _ (by rfl) hown ⟨w1.heap.size, 0, none⟩ 2 2 [Value.int .u8 2, Value.int .u8 6] (by rfl) rfl (news2 n0 n1) news2_one (by unfold maxLen; omega) (by omega) hHeld.2.size ?_
        intro v3 w3 hown3 hgr3 _
        have hF := first_of (k := 6) (g := 0) (c := 0) (by omega) hown hHeld.2 hgr3 hown3
        refine hK.out _ _ ⟨by rw [hF.2.cell hrb]; exact c0, hF.2⟩ (fun hHeld => ?_)
        clear hK K
        try simp only [Act.put, List.getElem_toArray, List.getElem_cons_zero, List.getElem_cons_succ, List.setIfInBounds_toArray, List.set_cons_zero, List.set_cons_succ]
        refine wpAnyH_take (i := 9) (v := ?_) rfl (by kernel_rfl) (by kernel_rfl) (by kernel_rfl) (fun _ _ _ h => h) (Or.inl ⟨by rfl, ?_⟩) hHeld ?_
        rotate_left
        · intro w0 hSw; (try dsimp only at hSw); have hSw0 := hSw.1; go_simp <;> with_reducible rfl
        try simp only [Act.put, List.getElem_toArray, List.getElem_cons_zero, List.getElem_cons_succ, List.setIfInBounds_toArray, List.set_cons_zero, List.set_cons_succ]
        refine wpAnyH_done (by kernel_rfl) ?_ _
        go_wp2_with fail
        go_meet
        exact hF
    · -- the two bytes first
      rw [if_pos (by simp [Region.wanted])]
      go_simp
      have hbB1 : Below w.heap.size w ((w.alloc (.cells #[.int .u8 2, .int .u8 6] 5)).drew) := ((Below.refl _ w).alloc (Nat.le_refl _) _).drew
      refine hK.out _ _ ⟨by rw [hbB1.cell hrb]; exact c0, hbB1⟩ (fun hHeld => ?_)
      clear hK K
      try simp only [Act.put, List.getElem_toArray, List.getElem_cons_zero, List.getElem_cons_succ, List.setIfInBounds_toArray, List.set_cons_zero, List.set_cons_succ]
      refine wpAnyH_ready (rs := [1]) (by kernel_rfl) (by simp) ?_
      refine AllReadyH.cons rfl (fun K hK => ?_) AllReadyH.nil
      rw [if_pos (by simp [Region.wanted])]
      go_simp
      refine (H33w.out _ hHeld.2).mono ?_
      rintro e w1 ⟨rfl, hb1, hbW⟩
      refine hK.out _ _ ⟨by rw [hb1.cell hrb]; exact c0, hb1⟩ (fun hHeld => ?_)
      clear hK K
      try simp only [Act.put, List.getElem_toArray, List.getElem_cons_zero, List.getElem_cons_succ, List.setIfInBounds_toArray, List.set_cons_zero, List.set_cons_succ]
      have n0 : w1.cell? ⟨w.heap.size, 0, none⟩ = some (.int .u8 2) := by rw [hbW.cell (by simp)]; simp
      have n1 : w1.cell? ⟨w.heap.size, 1, none⟩ = some (.int .u8 6) := by rw [hbW.cell (by simp)]; simp
      refine wpAnyH_ready (rs := [2]) (by kernel_rfl) (by simp) ?_
      refine AllReadyH.cons rfl (fun K hK => ?_) AllReadyH.nil
      rw [if_pos (by simp [Region.wanted])]
      refine wp_make_own _ _ _ 33 (by rfl) w.heap.size 5 i0 (.int .u8 0) 1 Try.underlying33 hi hz0 hz1 .i64 .i64 (enc 6 r).length (by rfl) (by rfl) (by rw [hz2]; omega) (by unfold maxLen; omega) hHeld.2.size ?_
      intro w2 hown hgr
      have hbM := below_none hHeld.2 hgr hHeld.2.size
      refine hK.out _ _ ⟨by rw [hbM.cell hrb]; exact c0, hbM⟩ (fun hHeld => ?_)
      clear hK K
      try simp only [Act.put, List.getElem_toArray, List.getElem_cons_zero, List.getElem_cons_succ, List.setIfInBounds_toArray, List.set_cons_zero, List.set_cons_succ]
      have n0' := hgr.cell n0 (by simp)
      have n1' := hgr.cell n1 (by simp)
      refine wpAnyH_ready (rs := [8]) (by kernel_rfl) (by simp) ?_
      refine AllReadyH.cons rfl (fun K hK => ?_) AllReadyH.nil
      rw [if_pos (by simp [Region.wanted])]
      refine wp_append_own _ _ _ 33 (by rfl) w.heap.size 5 i0 (.int .u8 0) 1 1 Try.underlying33 hi hz0 hz1 hz2 rfl (by decide) _ _ _ (by rfl) hown ⟨w.heap.size, 0, none⟩ 2 2 [Value.int .u8 2, Value.int .u8 6] (by rfl) rfl (news2 n0' n1') news2_one (by unfold maxLen; omega) (by omega) hHeld.2.size ?_
      intro v3 w3 hown3 hgr3 _
      have hF := first_of (k := 6) (g := 0) (c := 0) (by omega) hown hHeld.2 hgr3 hown3
      refine hK.out _ _ ⟨by rw [hF.2.cell hrb]; exact c0, hF.2⟩ (fun hHeld => ?_)
      clear hK K
      try simp only [Act.put, List.getElem_toArray, List.getElem_cons_zero, List.getElem_cons_succ, List.setIfInBounds_toArray, List.set_cons_zero, List.set_cons_succ]
      refine wpAnyH_take (i := 9) (v := ?_) rfl (by kernel_rfl) (by kernel_rfl) (by kernel_rfl) (fun _ _ _ h => h) (Or.inl ⟨by rfl, ?_⟩) hHeld ?_
      rotate_left
      · intro w0 hSw; (try dsimp only at hSw); have hSw0 := hSw.1; go_simp <;> with_reducible rfl
      try simp only [Act.put, List.getElem_toArray, List.getElem_cons_zero, List.getElem_cons_succ, List.setIfInBounds_toArray, List.set_cons_zero, List.set_cons_succ]
      refine wpAnyH_done (by kernel_rfl) ?_ _
      go_wp2_with fail
      go_meet
      exact hF
  case rest =>
    obtain ⟨hrow0, hbel0⟩ := hcut
    clear H33 H33w hi hz0 hz1 hz2 hlen
    have d0 := (HRb.out _ hbel0).c0
    have d8 := (HRb.out _ hbel0).c8
    have hs := ok.seq
    have H38 : Hid (∀ v W, Row W w.heap.size v [2, 6] → Below w.heap.size w W → Calls Try.prog 38 #[v, .int .u64 r.seq] W (Out w.heap.size ([2, 6] ++ Lib.uvarint r.seq) W)) := fun v W h1 h2 => appendUvarint w.heap.size r.seq hs v _ W h1 h2.size (by simp)
    have hrow0' : Row _ w.heap.size _ [2, 6] := hrow0
    go_wp2_with (go_at_call 38; refine Calls.mono (H38.out _ _ (by assumption) (by assumption)) ?_; rintro _ w1 ⟨v1, rfl, hrow1, hap1⟩)
    go_ret
    exact ⟨_, rfl, hrow1, hbel0.trans hap1.bel⟩

set_option maxHeartbeats 3200000 in
set_option maxRecDepth 100000 in
theorem encode_7 (B rb : Nat) (pv : Value) (rdb rc wrb wc : Nat) (r : RecD) (w : World) (h : RecAt w B rb 7 pv rdb rc wrb wc r) (ok : RecOk r) (hB : B ≤ w.heap.size) (hlen : (enc 7 r).length ≤ 1073741824) :
    Calls Try.prog 32 #[.pointer (some ⟨rb, 0, none⟩)] w fun e w' => ∃ v', e = .returned v' ∧ Row w' w.heap.size v' (enc 7 r) ∧ Below w.heap.size w w' := by
  obtain ⟨i0, hi, hz0, hz1, hz2⟩ := info5
  have HR : Hid (RecAt w B rb 7 pv rdb rc wrb wc r) := h
  have H33 : Hid (∀ W, Below w.heap.size w W → Calls Try.prog 33 #[.pointer (some ⟨rb, 0, none⟩)] W fun e w' => e = .returned (.int .i64 (enc 7 r).length) ∧ Below w.heap.size w w') := fun W hW => (size_any 7 B rb pv rdb rc wrb wc r W (HR.out.belowB (hW.mono hB)) ok (Nat.le_trans hB hW.size) (by omega)).mono fun e w' hh => ⟨hh.1, hW.trans (hh.2.mono hW.size)⟩
  have H33w : Hid (∀ W, Below w.heap.size w W → Calls Try.prog 33 #[.pointer (some ⟨rb, 0, none⟩)] W fun e w' => e = .returned (.int .i64 (enc 7 r).length) ∧ Below w.heap.size w w' ∧ Below W.heap.size W w') := fun W hW => (size_any 7 B rb pv rdb rc wrb wc r W (HR.out.belowB (hW.mono hB)) ok (Nat.le_trans hB hW.size) (by omega)).mono fun e w' hh => ⟨hh.1, hW.trans (hh.2.mono hW.size), hh.2⟩
  have c0 : w.cell? ⟨rb, 0, none⟩ = some (.int .u8 7) := h.c0
  have hrb : rb < w.heap.size := Nat.lt_of_lt_of_le h.rbB hB
  have HRb : Hid (∀ W, Below w.heap.size w W → RecAt W B rb 7 pv rdb rc wrb wc r) := fun W hW => RecAt.belowB HR.out (hW.mono hB)
  clear h
  go_enter Try.func32, Try.ntmps32
  go_upto_region 1 with fail
  go_cut [3] from 10 to 18 (fun v wx => First w 7 v wx)
  case first =>
    refine wp_region_held_drew (S := (fun W => W.cell? ⟨rb, 0, none⟩ = some (.int .u8 7) ∧ Below w.heap.size w W)) (by kernel_rfl) ?_ (fun hHeld => ?_)
    · exact ⟨c0, (Below.refl _ _).drew⟩
    refine wpAnyH_take (i := 0) (v := ?_) rfl (by kernel_rfl) (by kernel_rfl) (by kernel_rfl) (fun _ _ _ h => h) (Or.inl ⟨by rfl, ?_⟩) hHeld ?_
    rotate_left
    · intro w0 hSw; (try dsimp only at hSw); have hSw0 := hSw.1; go_simp <;> with_reducible rfl
    try simp only [Act.put, List.getElem_toArray, List.getElem_cons_zero, List.getElem_cons_succ, List.setIfInBounds_toArray, List.set_cons_zero, List.set_cons_succ]
    refine wpAnyH_take (i := 3) (v := ?_) rfl (by kernel_rfl) (by kernel_rfl) (by kernel_rfl) (fun _ _ _ h => h) (Or.inl ⟨by rfl, ?_⟩) hHeld ?_
    rotate_left
    · intro w0 hSw; (try dsimp only at hSw); have hSw0 := hSw.1; go_simp <;> with_reducible rfl
    try simp only [Act.put, List.getElem_toArray, List.getElem_cons_zero, List.getElem_cons_succ, List.setIfInBounds_toArray, List.set_cons_zero, List.set_cons_succ]
    refine wpAnyH_take (i := 4) (v := ?_) rfl (by kernel_rfl) (by kernel_rfl) (by kernel_rfl) (fun _ _ _ h => h) (Or.inl ⟨by rfl, ?_⟩) hHeld ?_
    rotate_left
    · intro w0 hSw; (try dsimp only at hSw); have hSw0 := hSw.1; go_simp <;> with_reducible rfl
    try simp only [Act.put, List.getElem_toArray, List.getElem_cons_zero, List.getElem_cons_succ, List.setIfInBounds_toArray, List.set_cons_zero, List.set_cons_succ]
    refine wpAnyH_take (i := 5) (v := ?_) rfl (by kernel_rfl) (by kernel_rfl) (by kernel_rfl) (fun _ _ _ h => h) (Or.inl ⟨by rfl, ?_⟩) hHeld ?_
    rotate_left
    · intro w0 hSw; (try dsimp only at hSw); have hSw0 := hSw.1; go_simp <;> with_reducible rfl
    try simp only [Act.put, List.getElem_toArray, List.getElem_cons_zero, List.getElem_cons_succ, List.setIfInBounds_toArray, List.set_cons_zero, List.set_cons_succ]
    refine wpAnyH_take (i := 6) (v := ?_) rfl (by kernel_rfl) (by kernel_rfl) (by kernel_rfl) (fun _ _ _ h => h) (Or.inl ⟨by rfl, ?_⟩) hHeld ?_
    rotate_left
    · intro w0 hSw; (try dsimp only at hSw); have hSw0 := hSw.1; go_simp <;> with_reducible rfl
    try simp only [Act.put, List.getElem_toArray, List.getElem_cons_zero, List.getElem_cons_succ, List.setIfInBounds_toArray, List.set_cons_zero, List.set_cons_succ]
    refine wpAnyH_ready (rs := [1, 7]) (by kernel_rfl) (by simp) ?_
    refine AllReadyH.cons rfl (fun K hK => ?_) (AllReadyH.cons rfl (fun K hK => ?_) AllReadyH.nil)
    · -- the call first
      rw [if_pos (by simp [Region.wanted])]
      go_simp
      refine (H33.out _ hHeld.2).mono ?_
      rintro e w1 ⟨rfl, hb1⟩
      refine hK.out _ _ ⟨by rw [hb1.cell hrb]; exact c0, hb1⟩ (fun hHeld => ?_)
      clear hK K
      try simp only [Act.put, List.getElem_toArray, List.getElem_cons_zero, List.getElem_cons_succ, List.setIfInBounds_toArray, List.set_cons_zero, List.set_cons_succ]
      refine wpAnyH_ready (rs := [2, 7]) (by kernel_rfl) (by simp) ?_
      refine AllReadyH.cons rfl (fun K hK => ?_) (AllReadyH.cons rfl (fun K hK => ?_) AllReadyH.nil)
      · -- then make, then the two bytes
        rw [if_pos (by simp [Region.wanted])]
        refine wp_make_own _ _ _ 33 (by rfl) w.heap.size 5 i0 (.int .u8 0) 1 Try.underlying33 hi hz0 hz1 .i64 .i64 (enc 7 r).length (by rfl) (by rfl) (by rw [hz2]; omega) (by unfold maxLen; omega) hHeld.2.size ?_
        intro w2 hown hgr
        have hbM := below_none hHeld.2 hgr hHeld.2.size
        refine hK.out _ _ ⟨by rw [hbM.cell hrb]; exact c0, hbM⟩ (fun hHeld => ?_)
        clear hK K
        try simp only [Act.put, List.getElem_toArray, List.getElem_cons_zero, List.getElem_cons_succ, List.setIfInBounds_toArray, List.set_cons_zero, List.set_cons_succ]
        refine wpAnyH_ready (rs := [7]) (by kernel_rfl) (by simp) ?_
        refine AllReadyH.cons rfl (fun K hK => ?_) AllReadyH.nil
        rw [if_pos (by simp [Region.wanted])]
        go_simp
        have hbB1 := hHeld.2.alloc (o := .cells #[.int .u8 2, .int .u8 7] 5) hHeld.2.size
        refine hK.out _ _ ⟨by rw [hbB1.cell hrb]; exact c0, hbB1⟩ (fun hHeld => ?_)
        clear hK K
        try simp only [Act.put, List.getElem_toArray, List.getElem_cons_zero, List.getElem_cons_succ, List.setIfInBounds_toArray, List.set_cons_zero, List.set_cons_succ]
        refine wpAnyH_ready (rs := [8]) (by kernel_rfl) (by simp) ?_
        refine AllReadyH.cons rfl (fun K hK => ?_) AllReadyH.nil
        rw [if_pos (by simp [Region.wanted])]
        refine wp_append_own _ _ _ 33 (by rfl) w.heap.size 5 i0 (.int .u8 0) 1 1 Try.underlying33 hi hz0 hz1 hz2 rfl (by decide) _ _ _ (by rfl) (hown.alloc _) ⟨w2.heap.size, 0, none⟩ 2 2 [Value.int .u8 2, Value.int .u8 7] (by rfl) rfl (news2 (by simp) (by simp)) news2_one (by unfold maxLen; omega) (by omega) hHeld.2.size ?_
        intro v3 w3 hown3 hgr3 _
        have hF := first_of (k := 7) (g := 0) (c := 0) (by omega) (hown.alloc _) hHeld.2 hgr3 hown3
        refine hK.out _ _ ⟨by rw [hF.2.cell hrb]; exact c0, hF.2⟩ (fun hHeld => ?_)
        clear hK K
        try simp only [Act.put, List.getElem_toArray, List.getElem_cons_zero, List.getElem_cons_succ, List.setIfInBounds_toArray, List.set_cons_zero, List.set_cons_succ]
        refine wpAnyH_take (i := 9) (v := ?_) rfl (by kernel_rfl) (by kernel_rfl) (by kernel_rfl) (fun _ _ _ h => h) (Or.inl ⟨by rfl, ?_⟩) hHeld ?_
        rotate_left
        · intro w0 hSw; (try dsimp only at hSw); have hSw0 := hSw.1; go_simp <;> with_reducible rfl
        try simp only [Act.put, List.getElem_toArray, List.getElem_cons_zero, List.getElem_cons_succ, List.setIfInBounds_toArray, List.set_cons_zero, List.set_cons_succ]
        refine wpAnyH_done (by kernel_rfl) ?_ _
        go_wp2_with fail
        go_meet
        exact hF
      · -- the two bytes, then make
        rw [if_pos (by simp [Region.wanted])]
        go_simp
        have hbB1 := hHeld.2.alloc (o := .cells #[.int .u8 2, .int .u8 7] 5) hHeld.2.size
        refine hK.out _ _ ⟨by rw [hbB1.cell hrb]; exact c0, hbB1⟩ (fun hHeld => ?_)
        clear hK K
        try simp only [Act.put, List.getElem_toArray, List.getElem_cons_zero, List.getElem_cons_succ, List.setIfInBounds_toArray, List.set_cons_zero, List.set_cons_succ]
        refine wpAnyH_ready (rs := [2]) (by kernel_rfl) (by simp) ?_
        refine AllReadyH.cons rfl (fun K hK => ?_) AllReadyH.nil
        rw [if_pos (by simp [Region.wanted])]
        refine wp_make_own _ _ _ 33 (by rfl) w.heap.size 5 i0 (.int .u8 0) 1 Try.underlying33 hi hz0 hz1 .i64 .i64 (enc 7 r).length (by rfl) (by rfl) (by rw [hz2]; omega) (by unfold maxLen; omega) hHeld.2.size ?_
        intro w2 hown hgr
        have hbM := below_none hHeld.2 hgr hHeld.2.size
        refine hK.out _ _ ⟨by rw [hbM.cell hrb]; exact c0, hbM⟩ (fun hHeld => ?_)
        clear hK K
        try simp only [Act.put, List.getElem_toArray, List.getElem_cons_zero, List.getElem_cons_succ, List.setIfInBounds_toArray, List.set_cons_zero, List.set_cons_succ]
        have n0 := hgr.cell (a := ⟨w1.heap.size, 0, none⟩) (v := .int .u8 2) (by simp) (by simp)
        have n1 := hgr.cell (a := ⟨w1.heap.size, 1, none⟩) (v := .int .u8 7) (by simp) (by simp)
        refine wpAnyH_ready (rs := [8]) (by kernel_rfl) (by simp) ?_
        refine AllReadyH.cons rfl (fun K hK => ?_) AllReadyH.nil
        rw [if_pos (by simp [Region.wanted])]
        refine wp_append_own _ _ _ 33 (by rfl) w.heap.size 5 i0 (.int .u8 0) 1 1 Try.underlying33 hi hz0 hz1 hz2 rfl (by decide) _ _ _ (by rfl) hown ⟨w1.heap.size, 0, none⟩ 2 2 [Value.int .u8 2, Value.int .u8 7] (by rfl) rfl (news2 n0 n1) news2_one (by unfold maxLen; omega) (by omega) hHeld.2.size ?_
        intro v3 w3 hown3 hgr3 _
        have hF := first_of (k := 7) (g := 0) (c := 0) (by omega) hown hHeld.2 hgr3 hown3
        refine hK.out _ _ ⟨by rw [hF.2.cell hrb]; exact c0, hF.2⟩ (fun hHeld => ?_)
        clear hK K
        try simp only [Act.put, List.getElem_toArray, List.getElem_cons_zero, List.getElem_cons_succ, List.setIfInBounds_toArray, List.set_cons_zero, List.set_cons_succ]
        refine wpAnyH_take (i := 9) (v := ?_) rfl (by kernel_rfl) (by kernel_rfl) (by kernel_rfl) (fun _ _ _ h => h) (Or.inl ⟨by rfl, ?_⟩) hHeld ?_
        rotate_left
        · intro w0 hSw; (try dsimp only at hSw); have hSw0 := hSw.1; go_simp <;> with_reducible rfl
        try simp only [Act.put, List.getElem_toArray, List.getElem_cons_zero, List.getElem_cons_succ, List.setIfInBounds_toArray, List.set_cons_zero, List.set_cons_succ]
        refine wpAnyH_done (by kernel_rfl) ?_ _
        go_wp2_with fail
        go_meet
        exact hF
    · -- the two bytes first
      rw [if_pos (by simp [Region.wanted])]
      go_simp
      have hbB1 : Below w.heap.size w ((w.alloc (.cells #[.int .u8 2, .int .u8 7] 5)).drew) := ((Below.refl _ w).alloc (Nat.le_refl _) _).drew
      refine hK.out _ _ ⟨by rw [hbB1.cell hrb]; exact c0, hbB1⟩ (fun hHeld => ?_)
      clear hK K
      try simp only [Act.put, List.getElem_toArray, List.getElem_cons_zero, List.getElem_cons_succ, List.setIfInBounds_toArray, List.set_cons_zero, List.set_cons_succ]
      refine wpAnyH_ready (rs := [1]) (by kernel_rfl) (by simp) ?_
      refine AllReadyH.cons rfl (fun K hK => ?_) AllReadyH.nil
      rw [if_pos (by simp [Region.wanted])]
      go_simp
      refine (H33w.out _ hHeld.2).mono ?_
      rintro e w1 ⟨rfl, hb1, hbW⟩
      refine hK.out _ _ ⟨by rw [hb1.cell hrb]; exact c0, hb1⟩ (fun hHeld => ?_)
      clear hK K
      try simp only [Act.put, List.getElem_toArray, List.getElem_cons_zero, List.getElem_cons_succ, List.setIfInBounds_toArray, List.set_cons_zero, List.set_cons_succ]
      have n0 : w1.cell? ⟨w.heap.size, 0, none⟩ = some (.int .u8 2) := by rw [hbW.cell (by simp)]; simp
      have n1 : w1.cell? ⟨w.heap.size, 1, none⟩ = some (.int .u8 7) := by rw [hbW.cell (by simp)]; simp
      refine wpAnyH_ready (rs := [2]) (by kernel_rfl) (by simp) ?_
      refine AllReadyH.cons rfl (fun K hK => ?_) AllReadyH.nil
      rw [if_pos (by simp [Region.wanted])]
      refine wp_make_own _ _ _ 33 (by rfl) w.heap.size 5 i0 (.int .u8 0) 1 Try.underlying33 hi hz0 hz1 .i64 .i64 (enc 7 r).length (by rfl) (by rfl) (by rw [hz2]; omega) (by unfold maxLen; omega) hHeld.2.size ?_
      intro w2 hown hgr
      have hbM := below_none hHeld.2 hgr hHeld.2.size
      refine hK.out _ _ ⟨by rw [hbM.cell hrb]; exact c0, hbM⟩ (fun hHeld => ?_)
      clear hK K
      try simp only [Act.put, List.getElem_toArray, List.getElem_cons_zero, List.getElem_cons_succ, List.setIfInBounds_toArray, List.set_cons_zero, List.set_cons_succ]
      have n0' := hgr.cell n0 (by simp)
      have n1' := hgr.cell n1 (by simp)
      refine wpAnyH_ready (rs := [8]) (by kernel_rfl) (by simp) ?_
      refine AllReadyH.cons rfl (fun K hK => ?_) AllReadyH.nil
      rw [if_pos (by simp [Region.wanted])]
      refine wp_append_own _ _ _ 33 (by rfl) w.heap.size 5 i0 (.int .u8 0) 1 1 Try.underlying33 hi hz0 hz1 hz2 rfl (by decide) _ _ _ (by rfl) hown ⟨w.heap.size, 0, none⟩ 2 2 [Value.int .u8 2, Value.int .u8 7] (by rfl) rfl (news2 n0' n1') news2_one (by unfold maxLen; omega) (by omega) hHeld.2.size ?_
      intro v3 w3 hown3 hgr3 _
      have hF := first_of (k := 7) (g := 0) (c := 0) (by omega) hown hHeld.2 hgr3 hown3
      refine hK.out _ _ ⟨by rw [hF.2.cell hrb]; exact c0, hF.2⟩ (fun hHeld => ?_)
      clear hK K
      try simp only [Act.put, List.getElem_toArray, List.getElem_cons_zero, List.getElem_cons_succ, List.setIfInBounds_toArray, List.set_cons_zero, List.set_cons_succ]
      refine wpAnyH_take (i := 9) (v := ?_) rfl (by kernel_rfl) (by kernel_rfl) (by kernel_rfl) (fun _ _ _ h => h) (Or.inl ⟨by rfl, ?_⟩) hHeld ?_
      rotate_left
      · intro w0 hSw; (try dsimp only at hSw); have hSw0 := hSw.1; go_simp <;> with_reducible rfl
      try simp only [Act.put, List.getElem_toArray, List.getElem_cons_zero, List.getElem_cons_succ, List.setIfInBounds_toArray, List.set_cons_zero, List.set_cons_succ]
      refine wpAnyH_done (by kernel_rfl) ?_ _
      go_wp2_with fail
      go_meet
      exact hF
  case rest =>
    obtain ⟨hrow0, hbel0⟩ := hcut
    clear H33 H33w hi hz0 hz1 hz2 hlen
    have d0 := (HRb.out _ hbel0).c0
    have d9 := (HRb.out _ hbel0).c9
    have H38 : Hid (∀ v W, Row W w.heap.size v [2, 7] → Below w.heap.size w W → Calls Try.prog 38 #[v, .int .u64 0] W (Out w.heap.size ([2, 7] ++ Lib.uvarint 0) W)) := fun v W h1 h2 => appendUvarint w.heap.size 0 (by omega) v _ W h1 h2.size (by simp)
    have hrow0' : Row _ w.heap.size _ [2, 7] := hrow0
    go_wp2_with (go_at_call 38; refine Calls.mono (H38.out _ _ (by assumption) (by assumption)) ?_; rintro _ w1 ⟨v1, rfl, hrow1, hap1⟩; have hbel1 := Below.trans (by assumption) hap1.bel; have d9' := (HRb.out _ hbel1).c9)
    refine wp_loop_rounds 1 ?_
    rw [rounds_succ]
    go_wp2
    go_ret
    exact ⟨_, rfl, hrow1, hbel1⟩

end Go.Proofs.Qxb6605845a.Ec
