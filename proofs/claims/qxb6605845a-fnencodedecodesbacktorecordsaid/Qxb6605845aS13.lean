import Derived.Test.Qxb6605845aS11
namespace Go.Proofs.Qxb6605845a.Ec
set_option linter.unusedVariables false
set_option linter.unusedSimpArgs false
open Go.RowKit

set_option maxHeartbeats 3200000 in
set_option maxRecDepth 100000 in
theorem encode_1 (B rb : Nat) (pv : Value) (rdb rc wrb wc : Nat) (r : RecD) (w : World) (h : RecAt w B rb 1 pv rdb rc wrb wc r) (ok : RecOk r) (hB : B ≤ w.heap.size) (hlen : (enc 1 r).length ≤ 1073741824) :
    Calls Try.prog 32 #[.pointer (some ⟨rb, 0, none⟩)] w fun e w' => ∃ v', e = .returned v' ∧ Row w' w.heap.size v' (enc 1 r) ∧ Below w.heap.size w w' := by
  obtain ⟨i0, hi, hz0, hz1, hz2⟩ := info5
  have HR : Hid (RecAt w B rb 1 pv rdb rc wrb wc r) := h
  have H33 : Hid (∀ W, Below w.heap.size w W → Calls Try.prog 33 #[.pointer (some ⟨rb, 0, none⟩)] W fun e w' => e = .returned (.int .i64 (enc 1 r).length) ∧ Below w.heap.size w w') := fun W hW => (size_any 1 B rb pv rdb rc wrb wc r W (HR.out.belowB (hW.mono hB)) ok (Nat.le_trans hB hW.size) (by omega)).mono fun e w' hh => ⟨hh.1, hW.trans (hh.2.mono hW.size)⟩
  have H33w : Hid (∀ W, Below w.heap.size w W → Calls Try.prog 33 #[.pointer (some ⟨rb, 0, none⟩)] W fun e w' => e = .returned (.int .i64 (enc 1 r).length) ∧ Below w.heap.size w w' ∧ Below W.heap.size W w') := fun W hW => (size_any 1 B rb pv rdb rc wrb wc r W (HR.out.belowB (hW.mono hB)) ok (Nat.le_trans hB hW.size) (by omega)).mono fun e w' hh => ⟨hh.1, hW.trans (hh.2.mono hW.size), hh.2⟩
  have c0 : w.cell? ⟨rb, 0, none⟩ = some (.int .u8 1) := h.c0
  have hrb : rb < w.heap.size := Nat.lt_of_lt_of_le h.rbB hB
  have HRb : Hid (∀ W, Below w.heap.size w W → RecAt W B rb 1 pv rdb rc wrb wc r) := fun W hW => RecAt.belowB HR.out (hW.mono hB)
  clear h
  go_enter Try.func32, Try.ntmps32
  go_upto_region 1 with fail
  go_cut [3] from 10 to 18 (fun v wx => First w 1 v wx)
  case first =>
    refine wp_region_held_drew (S := (fun W => W.cell? ⟨rb, 0, none⟩ = some (.int .u8 1) ∧ Below w.heap.size w W)) (by kernel_rfl) ?_ (fun hHeld => ?_)
    · exact ⟨c0, (Below.refl _ _).drew⟩
    refine wpAnyH_take (i := 0) (v := ?_) rfl (by kernel_rfl) (by kernel_rfl) (by kernel_rfl) (fun _ _ _ h => h) (Or.inl ⟨by rfl, ?_⟩) hHeld ?_
    rotate_left
    · intro w0 hSw; (try dsimp only at hSw); have hSw0 := hSw.1; go_simp <;> with_reducible rfl
    try simp only [Act.put, List.getElem_toArray, List.getElem_cons_zero, List.getElem_cons_succ, List.setIfInBounds_toArray, List.set_cons_zero, List.set_cons_succ]
    refine wpAnyH_take (i := 3) (v := ?_) rfl (by kernel_rfl) (by kernel_rfl) (by kernel_rfl) (fun _ _ _ h => h) (Or.inl ⟨by rfl, ?_⟩) hHeld ?_
    rotate_left
    · intro w0 hSw; (try dsimp only at hSw); have hSw0 := hSw.1; go_simp <;> with_reducible rfl
    try simp only [Act.put, List.getElem_toArray, List.getElem_cons_zero, List.getElem_cons_succ, List.setIfInBounds_toArray, List.set_cons_zero, List.set_cons_succ]
    refine wpAnyH_take (i := 4) (v := ?_) rfl (by kernel_rfl) (by kernel_rfl) (by kernel_rfl) (fun _ _ _ h => h) (Or.inl ⟨by rfl, ?_⟩) hHeld ?_
    rotate_left
    · intro w0 hSw; (try dsimp only at hSw); have hSw0 := hSw.1; go_simp <;> with_reducible rfl
    try simp only [Act.put, List.getElem_toArray, List.getElem_cons_zero, List.getElem_cons_succ, List.setIfInBounds_toArray, List.set_cons_zero, List.set_cons_succ]
    refine wpAnyH_take (i := 5) (v := ?_) rfl (by kernel_rfl) (by kernel_rfl) (by kernel_rfl) (fun _ _ _ h => h) (Or.inl ⟨by rfl, ?_⟩) hHeld ?_
    rotate_left
    · intro w0 hSw; (try dsimp only at hSw); have hSw0 := hSw.1; go_simp <;> with_reducible rfl
    try simp only [Act.put, List.getElem_toArray, List.getElem_cons_zero, List.getElem_cons_succ, List.setIfInBounds_toArray, List.set_cons_zero, List.set_cons_succ]
    refine wpAnyH_take (i := 6) (v := ?_) rfl (by kernel_rfl) (by kernel_rfl) (by kernel_rfl) (fun _ _ _ h => h) (Or.inl ⟨by rfl, ?_⟩) hHeld ?_
    rotate_left
    · intro w0 hSw; (try dsimp only at hSw); have hSw0 := hSw.1; go_simp <;> with_reducible rfl
    try simp only [Act.put, List.getElem_toArray, List.getElem_cons_zero, List.getElem_cons_succ, List.setIfInBounds_toArray, List.set_cons_zero, List.set_cons_succ]
    refine wpAnyH_ready (rs := [1, 7]) (by kernel_rfl) (by simp) ?_
    refine AllReadyH.cons rfl (fun K hK => ?_) (AllReadyH.cons rfl (fun K hK => ?_) AllReadyH.nil)
    · -- the call first
      rw [if_pos (by simp [Region.wanted])]
      go_simp
      refine (H33.out _ hHeld.2).mono ?_
      rintro e w1 ⟨rfl, hb1⟩
      refine hK.out _ _ ⟨by rw [hb1.cell hrb]; exact c0, hb1⟩ (fun hHeld => ?_)
      clear hK K
      try simp only [Act.put, List.getElem_toArray, List.getElem_cons_zero, List.getElem_cons_succ, List.setIfInBounds_toArray, List.set_cons_zero, List.set_cons_succ]
      refine wpAnyH_ready (rs := [2, 7]) (by kernel_rfl) (by simp) ?_
      refine AllReadyH.cons rfl (fun K hK => ?_) (AllReadyH.cons rfl (fun K hK => ?_) AllReadyH.nil)
      · -- then make, then the two bytes
        rw [if_pos (by simp [Region.wanted])]
        refine wp_make_own _ _ _ 33 (by rfl) w.heap.size 5 i0 (.int .u8 0) 1 Try.underlying33 hi hz0 hz1 .i64 .i64 (enc 1 r).length (by rfl) (by rfl) (by rw [hz2]; omega) (by unfold maxLen; omega) hHeld.2.size ?_
        intro w2 hown hgr
        have hbM := below_none hHeld.2 hgr hHeld.2.size
        refine hK.out _ _ ⟨by rw [hbM.cell hrb]; exact c0, hbM⟩ (fun hHeld => ?_)
        clear hK K
        try simp only [Act.put, List.getElem_toArray, List.getElem_cons_zero, List.getElem_cons_succ, List.setIfInBounds_toArray, List.set_cons_zero, List.set_cons_succ]
        refine wpAnyH_ready (rs := [7]) (by kernel_rfl) (by simp) ?_
        refine AllReadyH.cons rfl (fun K hK => ?_) AllReadyH.nil
        rw [if_pos (by simp [Region.wanted])]
        go_simp
        have hbB1 := hHeld.2.alloc (o := .cells #[.int .u8 2, .int .u8 1] 5) hHeld.2.size
        refine hK.out _ _ ⟨by rw [hbB1.cell hrb]; exact c0, hbB1⟩ (fun hHeld => ?_)
        clear hK K
        try simp only [Act.put, List.getElem_toArray, List.getElem_cons_zero, List.getElem_cons_succ, List.setIfInBounds_toArray, List.set_cons_zero, List.set_cons_succ]
        refine wpAnyH_ready (rs := [8]) (by kernel_rfl) (by simp) ?_
        refine AllReadyH.cons rfl (fun K hK => ?_) AllReadyH.nil
        rw [if_pos (by simp [Region.wanted])]
        refine wp_append_own _ _ _ 33 (by rfl) w.heap.size 5 i0 (.int .u8 0) 1 1 Try.underlying33 hi hz0 hz1 hz2 rfl (by decide) _ _ _ (by rfl) (hown.alloc _) ⟨w2.heap.size, 0, none⟩ 2 2 [Value.int .u8 2, Value.int .u8 1] (by rfl) rfl (news2 (by simp) (by simp)) news2_one (by unfold maxLen; omega) (by omega) hHeld.2.size ?_
        intro v3 w3 hown3 hgr3 _
        have hF := first_of (k := 1) (g := 0) (c := 0) (by omega) (hown.alloc _) hHeld.2 hgr3 hown3
        refine hK.out _ _ ⟨by rw [hF.2.cell hrb]; exact c0, hF.2⟩ (fun hHeld => ?_)
        clear hK K
        try simp only [Act.put, List.getElem_toArray, List.getElem_cons_zero, List.getElem_cons_succ, List.setIfInBounds_toArray, List.set_cons_zero, List.set_cons_succ]
        refine wpAnyH_take (i := 9) (v := ?_) rfl (by kernel_rfl) (by kernel_rfl) (by kernel_rfl) (fun _ _ _ h => h) (Or.inl ⟨by rfl, ?_⟩) hHeld ?_
        rotate_left
        · intro w0 hSw; (try dsimp only at hSw); have hSw0 := hSw.1; go_simp <;> with_reducible rfl
        try simp only [Act.put, List.getElem_toArray, List.getElem_cons_zero, List.getElem_cons_succ, List.setIfInBounds_toArray, List.set_cons_zero, List.set_cons_succ]
        refine wpAnyH_done (by kernel_rfl) ?_ _
        go_wp2_with fail
        go_meet
        exact hF
      · -- the two bytes, then make
        rw [if_pos (by simp [Region.wanted])]
        go_simp
        have hbB1 := hHeld.2.alloc (o := .cells #[.int .u8 2, .int .u8 1] 5) hHeld.2.size
        refine hK.out _ _ ⟨by rw [hbB1.cell hrb]; exact c0, hbB1⟩ (fun hHeld => ?_)
        clear hK K
        try simp only [Act.put, List.getElem_toArray, List.getElem_cons_zero, List.getElem_cons_succ, List.setIfInBounds_toArray, List.set_cons_zero, List.set_cons_succ]
        refine wpAnyH_ready (rs := [2]) (by kernel_rfl) (by simp) ?_
        refine AllReadyH.cons rfl (fun K hK => ?_) AllReadyH.nil
        rw [if_pos (by simp [Region.wanted])]
        refine wp_make_own _ _ _ 33 (by rfl) w.heap.size 5 i0 (.int .u8 0) 1 Try.underlying33 hi hz0 hz1 .i64 .i64 (enc 1 r).length (by rfl) (by rfl) (by rw [hz2]; omega) (by unfold maxLen; omega) hHeld.2.size ?_
        intro w2 hown hgr
        have hbM := below_none hHeld.2 hgr hHeld.2.size
        refine hK.out _ _ ⟨by rw [hbM.cell hrb]; exact c0, hbM⟩ (fun hHeld => ?_)
        clear hK K
        try simp only [Act.put, List.getElem_toArray, List.getElem_cons_zero, List.getElem_cons_succ, List.setIfInBounds_toArray, List.set_cons_zero, List.set_cons_succ]
        have n0 := hgr.cell (a := ⟨w1.heap.size, 0, none⟩) (v := .int .u8 2) (by simp) (by simp)
        have n1 := hgr.cell (a := ⟨w1.heap.size, 1, none⟩) (v := .int .u8 1) (by simp) (by simp)
        refine wpAnyH_ready (rs := [8]) (by kernel_rfl) (by simp) ?_
        refine AllReadyH.cons rfl (fun K hK => ?_) AllReadyH.nil
        rw [if_pos (by simp [Region.wanted])]
        refine wp_append_own _ _ _ 33 (by rfl) w.heap.size 5 i0 (.int .u8 0) 1 1 Try.underlying33 hi hz0 hz1 hz2 rfl (by decide) _ _ _ (by rfl) hown ⟨w1.heap.size, 0, none⟩ 2 2 [Value.int .u8 2, Value.int .u8 1] (by rfl) rfl (news2 n0 n1) news2_one (by unfold maxLen; omega) (by omega) hHeld.2.size ?_
        intro v3 w3 hown3 hgr3 _
        have hF := first_of (k := 1) (g := 0) (c := 0) (by omega) hown hHeld.2 hgr3 hown3
        refine hK.out _ _ ⟨by rw [hF.2.cell hrb]; exact c0, hF.2⟩ (fun hHeld => ?_)
        clear hK K
        try simp only [Act.put, List.getElem_toArray, List.getElem_cons_zero, List.getElem_cons_succ, List.setIfInBounds_toArray, List.set_cons_zero, List.set_cons_succ]
        refine wpAnyH_take (i := 9) (v := ?_) rfl (by kernel_rfl) (by kernel_rfl) (by kernel_rfl) (fun _ _ _ h => h) (Or.inl ⟨by rfl, ?_⟩) hHeld ?_
        rotate_left
        · intro w0 hSw; (try dsimp only at hSw); have hSw0 := hSw.1; go_simp <;> with_reducible rfl
        try simp only [Act.put, List.getElem_toArray, List.getElem_cons_zero, List.getElem_cons_succ, List.setIfInBounds_toArray, List.set_cons_zero, List.set_cons_succ]
        refine wpAnyH_done (by kernel_rfl) ?_ _
        go_wp2_with fail
        go_meet
        exact hF
    · -- the two bytes first
      rw [if_pos (by simp [Region.wanted])]
      go_simp
      have hbB1 : Below w.heap.size w ((w.alloc (.cells #[.int .u8 2, .int .u8 1] 5)).drew) := ((Below.refl _ w).alloc (Nat.le_refl _) _).drew
      refine hK.out _ _ ⟨by rw [hbB1.cell hrb]; exact c0, hbB1⟩ (fun hHeld => ?_)
      clear hK K
      try simp only [Act.put, List.getElem_toArray, List.getElem_cons_zero, List.getElem_cons_succ, List.setIfInBounds_toArray, List.set_cons_zero, List.set_cons_succ]
      refine wpAnyH_ready (rs := [1]) (by kernel_rfl) (by simp) ?_
      refine AllReadyH.cons rfl (fun K hK => ?_) AllReadyH.nil
      rw [if_pos (by simp [Region.wanted])]
      go_simp
      refine (H33w.out _ hHeld.2).mono ?_
      rintro e w1 ⟨rfl, hb1, hbW⟩
      refine hK.out _ _ ⟨by rw [hb1.cell hrb]; exact c0, hb1⟩ (fun hHeld => ?_)
      clear hK K
      try simp only [Act.put, List.getElem_toArray, List.getElem_cons_zero, List.getElem_cons_succ, List.setIfInBounds_toArray, List.set_cons_zero, List.set_cons_succ]
      have n0 : w1.cell? ⟨w.heap.size, 0, none⟩ = some (.int .u8 2) := by rw [hbW.cell (by simp)]; simp
      have n1 : w1.cell? ⟨w.heap.size, 1, none⟩ = some (.int .u8 1) := by rw [hbW.cell (by simp)]; simp
      refine wpAnyH_ready (rs := [2]) (by kernel_rfl) (by simp) ?_
      refine AllReadyH.cons rfl (fun K hK => ?_) AllReadyH.nil
      rw [if_pos (by simp [Region.wanted])]
      refine wp_make_own _ _ _ 33 (by rfl) w.heap.size 5 i0 (.int .u8 0) 1 Try.underlying33 hi hz0 hz1 .i64 .i64 (enc 1 r).length (by rfl) (by rfl) (by rw [hz2]; omega) (by unfold maxLen; omega) hHeld.2.size ?_
      intro w2 hown hgr
      have hbM := below_none hHeld.2 hgr hHeld.2.size
      refine hK.out _ _ ⟨by rw [hbM.cell hrb]; exact c0, hbM⟩ (fun hHeld => ?_)
      clear hK K
      try simp only [Act.put, List.getElem_toArray, List.getElem_cons_zero, List.getElem_cons_succ, List.setIfInBounds_toArray, List.set_cons_zero, List.set_cons_succ]
      have n0' := hgr.cell n0 (by simp)
      have n1' := hgr.cell n1 (by simp)
      refine wpAnyH_ready (rs := [8]) (by kernel_rfl) (by simp) ?_
      refine AllReadyH.cons rfl (fun K hK => ?_) AllReadyH.nil
      rw [if_pos (by simp [Region.wanted])]
      refine wp_append_own _ _ _ 33 (by rfl) w.heap.size 5 i0 (.int .u8 0) 1 1 Try.underlying33 hi hz0 hz1 hz2 rfl (by decide) _ _ _ (by rfl) hown ⟨w.heap.size, 0, none⟩ 2 2 [Value.int .u8 2, Value.int .u8 1] (by rfl) rfl (news2 n0' n1') news2_one (by unfold maxLen; omega) (by omega) hHeld.2.size ?_
      intro v3 w3 hown3 hgr3 _
      have hF := first_of (k := 1) (g := 0) (c := 0) (by omega) hown hHeld.2 hgr3 hown3
      refine hK.out _ _ ⟨by rw [hF.2.cell hrb]; exact c0, hF.2⟩ (fun hHeld => ?_)
      clear hK K
      try simp only [Act.put, List.getElem_toArray, List.getElem_cons_zero, List.getElem_cons_succ, List.setIfInBounds_toArray, List.set_cons_zero, List.set_cons_succ]
      refine wpAnyH_take (i := 9) (v := ?_) rfl (by kernel_rfl) (by kernel_rfl) (by kernel_rfl) (fun _ _ _ h => h) (Or.inl ⟨by rfl, ?_⟩) hHeld ?_
      rotate_left
      · intro w0 hSw; (try dsimp only at hSw); have hSw0 := hSw.1; go_simp <;> with_reducible rfl
      try simp only [Act.put, List.getElem_toArray, List.getElem_cons_zero, List.getElem_cons_succ, List.setIfInBounds_toArray, List.set_cons_zero, List.set_cons_succ]
      refine wpAnyH_done (by kernel_rfl) ?_ _
      go_wp2_with fail
      go_meet
      exact hF
  case rest =>
    obtain ⟨hrow0, hbel0⟩ := hcut
    clear H33 H33w hi hz0 hz1 hz2 hlen
    have d0 := (HRb.out _ hbel0).c0
    have hD := encD_len ok
    obtain ⟨b1, hb1⟩ : ∃ b, b = [2, (1 : Nat).toUInt8] ++ encD r.site r.node r.idSeq := ⟨_, rfl⟩
    have hl1 : b1.length ≤ 1048700 := by rw [hb1]; simp; omega
    have H39 : Hid (∀ v W, Row W w.heap.size v [2, (1 : Nat).toUInt8] → Below w.heap.size w W → Calls Try.prog 39 #[.pointer (some ⟨rb, 1, none⟩), v] W (Out w.heap.size b1 W)) := fun v W h1 h2 => by
      rw [hb1]; exact appendWire w.heap.size rb 1 r.site r.node r.idSeq v _ W (HRb.out W h2).id hrb ok.idSeq h1 h2.size (by have := ok.site; simp; omega)
    have hI := ok.parts
    have hI2 := ok.partsL
    obtain ⟨b2, hb2⟩ : ∃ b, b = b1 ++ encI r.parts := ⟨_, rfl⟩
    have hl2 : b2.length ≤ 20000000 := by rw [hb2, List.length_append]; omega
    have H40 : Hid (∀ v W, Row W w.heap.size v b1 → Below w.heap.size w W → Calls Try.prog 40 #[v, pv] W (Out w.heap.size b2 W)) := fun v W h1 h2 => by
      rw [hb2]; exact appendIndexes w.heap.size v pv r.parts b1 W (HRb.out W h2).parts (fun a n c hh => Nat.lt_of_lt_of_le ((HRb.out W h2).partsB a n c hh) hB) h1 h2.size (by omega)
    have hT := ok.ticket
    have hT2 := Lib.uvarint_length64 (x := r.ticket) (by omega)
    obtain ⟨b3, hb3⟩ : ∃ b, b = b2 ++ Lib.uvarint r.ticket := ⟨_, rfl⟩
    have hl3 : b3.length ≤ 21000000 := by rw [hb3, List.length_append]; omega
    have H38t : Hid (∀ v W, Row W w.heap.size v b2 → Below w.heap.size w W → Calls Try.prog 38 #[v, .int .u64 r.ticket] W (Out w.heap.size b3 W)) := fun v W h1 h2 => by
      rw [hb3]; exact appendUvarint w.heap.size r.ticket hT v b2 W h1 h2.size (by omega)
    have k2 := ok.readsL
    have k3 := ok.writesL
    have k4 := ok.reads
    have k5 := ok.writes
    have e1 : (encR r.reads).length = (Lib.uvarint r.reads.length).length + (cat encP r.reads).length := by simp [encR]
    have e2 : (encW r.writes).length = (Lib.uvarint r.writes.length).length + (cat encQ r.writes).length := by simp [encW]
    obtain ⟨b4, hb4⟩ : ∃ b, b = b3 ++ Lib.uvarint r.reads.length := ⟨_, rfl⟩
    have hl4 : b4.length + (cat encP r.reads).length ≤ 170000000 := by rw [hb4, List.length_append]; omega
    have H38r : Hid (∀ v W, Row W w.heap.size v b3 → Below w.heap.size w W → Calls Try.prog 38 #[v, .int .u64 r.reads.length] W (Out w.heap.size b4 W)) := fun v W h1 h2 => by
      rw [hb4]; exact appendUvarint w.heap.size r.reads.length (by omega) v b3 W h1 h2.size (by omega)
    obtain ⟨b5, hb5⟩ : ∃ b, b = b4 ++ cat encP r.reads ++ Lib.uvarint r.writes.length := ⟨_, rfl⟩
    have hl5 : b5.length + (cat encQ r.writes).length ≤ 340000000 := by rw [hb5, List.length_append, List.length_append]; omega
    have H38w : Hid (∀ v W, Row W w.heap.size v (b4 ++ cat encP r.reads) → Below w.heap.size w W → Calls Try.prog 38 #[v, .int .u64 r.writes.length] W (Out w.heap.size b5 W)) := fun v W h1 h2 => by
      rw [hb5]; exact appendUvarint w.heap.size r.writes.length (by omega) v _ W h1 h2.size (by rw [List.length_append]; omega)
    have he : enc 1 r = b5 ++ cat encQ r.writes := by rw [hb5, hb4, hb3, hb2, hb1]; simp [enc, encTail, encR, encW]
    clear hb5 hb4 hb3 hb2 hb1
    go_wp2_with (first
      | (go_at_call 39; refine Calls.mono (H39.out _ _ (by assumption) (by assumption)) ?_; rintro _ w1 ⟨v1, rfl, hrow1, hap1⟩; have hbel1 := Below.trans (by assumption) hap1.bel; have d0_1 := (HRb.out _ hbel1).c0; have d4_1 := (HRb.out _ hbel1).c4; have d5_1 := (HRb.out _ hbel1).c5; have d6_1 := (HRb.out _ hbel1).c6; have d7_1 := (HRb.out _ hbel1).c7)
      | (go_at_call 40; refine Calls.mono (H40.out _ _ (by assumption) (by assumption)) ?_; rintro _ w2 ⟨v2, rfl, hrow2, hap2⟩; have hbel2 := Below.trans (by assumption) hap2.bel; have d0_2 := (HRb.out _ hbel2).c0; have d4_2 := (HRb.out _ hbel2).c4; have d5_2 := (HRb.out _ hbel2).c5; have d6_2 := (HRb.out _ hbel2).c6; have d7_2 := (HRb.out _ hbel2).c7)
      | (go_at_call 38; have _t := ‹Stage 2›; refine Calls.mono (H38r.out _ _ (by assumption) (by assumption)) ?_; rintro _ w4 ⟨v4, rfl, hrow4, hap4⟩; have hbel4 := Below.trans (by assumption) hap4.bel; have d0_4 := (HRb.out _ hbel4).c0; have d4_4 := (HRb.out _ hbel4).c4; have d5_4 := (HRb.out _ hbel4).c5; have d6_4 := (HRb.out _ hbel4).c6; have d7_4 := (HRb.out _ hbel4).c7)
      | (go_at_call 38; refine Calls.mono (H38t.out _ _ (by assumption) (by assumption)) ?_; rintro _ w3 ⟨v3, rfl, hrow3, hap3⟩; have hbel3 := Below.trans (by assumption) hap3.bel; have d0_3 := (HRb.out _ hbel3).c0; have d4_3 := (HRb.out _ hbel3).c4; have d5_3 := (HRb.out _ hbel3).c5; have d6_3 := (HRb.out _ hbel3).c6; have d7_3 := (HRb.out _ hbel3).c7; have st2 : Stage 2 := ⟨⟩))
    have hrowL : Hid (Row _ w.heap.size _ b4) := hrow4
    clear H39 H40 H38t H38r hrow0 hrow1 hrow2 hrow3 hrow4 hap1 hap2 hap3 hap4 hbel0 hbel1 hbel2 hbel3 st2 d0 d0_1 d4_1 d5_1 d6_1 d7_1 d0_2 d4_2 d5_2 d6_2 d7_2 d0_3 d4_3 d5_3 d6_3 d7_3 d0_4 d4_4 d5_4 d6_4 d7_4
    go_loopw [3, 108] (fun n x wr => ∃ k : Nat, k ≤ r.reads.length ∧ x = .int .i64 k ∧ Row wr w.heap.size n (b4 ++ cat encP (r.reads.take k)) ∧ Below w.heap.size w wr) (fun _ x _ => r.reads.length - (intOf x).toNat)
    case atStart => exact ⟨0, Nat.zero_le _, rfl, by rw [cat_zero, List.append_nil]; exact hrowL.out, hbel4⟩
    case round =>
      clear hrowL
      obtain ⟨k, hk, rfl, hrow, hb⟩ := hrel
      have hle := cat_le encP r.reads k
      have hsz := hb.size
      by_cases hkl : k < r.reads.length
      · obtain ⟨g0, g1⟩ := (HRb.out _ hb).reads k r.reads[k] (by simp [hkl])
        have hs := cat_succ encP r.reads k hkl
        have hle2 := cat_le encP r.reads (k + 1)
        rw [hs, List.length_append] at hle2
        have hp : (encP r.reads[k]).length = (encS r.reads[k].1).length + (encS r.reads[k].2).length := by simp [encP]
        have hp2 : encP r.reads[k] = encS r.reads[k].1 ++ encS r.reads[k].2 := rfl
        rw [hp] at hle2
        rw [hp2] at hs
        generalize r.reads[k] = p at *
        obtain ⟨t, q⟩ := p
        simp only at *
        rw [encS_len, encS_len] at hle2
        obtain ⟨c1, hc1⟩ : ∃ b, b = b4 ++ cat encP (r.reads.take k) := ⟨_, rfl⟩
        obtain ⟨c2, hc2⟩ : ∃ b, b = c1 ++ encS t := ⟨_, rfl⟩
        have hcl1 : c1.length + t.size + q.size ≤ 170000000 := by rw [hc1, List.length_append]; omega
        have hcl2 : c2.length + q.size ≤ 170000010 := by
          have := Lib.uvarint_length64 (x := t.size) (by omega)
          rw [hc2, List.length_append, encS_len]; omega
        have HA : Hid (∀ v W, Row W w.heap.size v c1 → w.heap.size ≤ W.heap.size → Calls Try.prog 41 #[v, .string t] W (Out w.heap.size c2 W)) := fun v W h1 h2 => by
          rw [hc2]; exact appendString w.heap.size t v c1 W h1 h2 (by omega)
        have HB2 : Hid (∀ v W, Row W w.heap.size v c2 → w.heap.size ≤ W.heap.size → Calls Try.prog 41 #[v, .string q] W (Out w.heap.size (c2 ++ encS q) W)) := fun v W h1 h2 => appendString w.heap.size q v c2 W h1 h2 (by omega)
        have hend : b4 ++ cat encP (r.reads.take (k + 1)) = c2 ++ encS q := by rw [hs, hc2, hc1]; simp
        rw [← hc1] at hrow
        have hrowa : Row (wr.alloc (.cells #[.string t, .string q] 46)) w.heap.size _ c1 := row_alloc hrow _
        have hsza : w.heap.size ≤ (wr.alloc (.cells #[.string t, .string q] 46)).heap.size := by simp; omega
        have hba := hb.alloc hsz (.cells #[.string t, .string q] 46)
        clear hrow hs hp hp2 hle hle2 hc1 hc2
        go_wp2_with (first
          | (go_at_call 41; have _t := ‹Stage 41›; refine Calls.mono (HB2.out _ _ (by assumption) (by assumption)) ?_; rintro _ w7 ⟨v7, rfl, hrow7, hap7⟩)
          | (go_at_call 41; refine Calls.mono (HA.out _ _ hrowa hsza) ?_; rintro _ w6 ⟨v6, rfl, hrow6, hap6⟩; have hsz6 := Nat.le_trans hsza hap6.bel.size; have n1 := ap_new hap6 (by decide) 1 (.string q) rfl; have st : Stage 41 := ⟨⟩))
        exact ⟨⟨k + 1, by omega, by go_num, by rw [hend]; exact hrow7, (hba.trans hap6.bel).trans hap7.bel⟩, by simp [intOf]; omega⟩
      · rw [cat_all encP r.reads k (by omega)] at hrow
        have f7 := (HRb.out _ hb).c7
        go_wp2_with (go_at_call 38; refine Calls.mono (H38w.out _ _ (by assumption) (by assumption)) ?_; rintro _ w8 ⟨v8, rfl, hrow8, hap8⟩; have hbel8 := Below.trans (by assumption) hap8.bel; have f7' := (HRb.out _ hbel8).c7)
        have hrowL : Hid (Row _ w.heap.size _ b5) := hrow8
        clear f7 f7' hrow8 hap8 hrow
        go_loopw [3, 134] (fun n x wr => ∃ k : Nat, k ≤ r.writes.length ∧ x = .int .i64 k ∧ Row wr w.heap.size n (b5 ++ cat encQ (r.writes.take k)) ∧ Below w.heap.size w wr) (fun _ x _ => r.writes.length - (intOf x).toNat)
        case atStart => exact ⟨0, Nat.zero_le _, rfl, by rw [cat_zero, List.append_nil]; exact hrowL.out, hbel8⟩
        case round =>
          clear hrowL hb hsz
          obtain ⟨k, hk, rfl, hrow, hb⟩ := hrel
          have hle := cat_le encQ r.writes k
          have hsz := hb.size
          by_cases hkl : k < r.writes.length
          · obtain ⟨g0, g1, v, g2, hv, hvB⟩ := (HRb.out _ hb).writes k r.writes[k] (by simp [hkl])
            have hs := cat_succ encQ r.writes k hkl
            have hle2 := cat_le encQ r.writes (k + 1)
            rw [hs, List.length_append] at hle2
            have hp : (encQ r.writes[k]).length = (encS r.writes[k].1).length + (encS r.writes[k].2.1).length + (encB r.writes[k].2.2).length := by simp [encQ]; omega
            have hp2 : encQ r.writes[k] = encS r.writes[k].1 ++ encS r.writes[k].2.1 ++ encB r.writes[k].2.2 := rfl
            rw [hp] at hle2
            rw [hp2] at hs
            generalize r.writes[k] = p at *
            obtain ⟨t, q, o⟩ := p
            simp only at *
            have hsh := hv.shape
            obtain ⟨sa, sn, sc, rfl⟩ : ∃ a n c, v = .slice a n c := by cases hsh <;> exact ⟨_, _, _, rfl⟩
            rw [encS_len, encS_len] at hle2
            obtain ⟨c1, hc1⟩ : ∃ b, b = b5 ++ cat encQ (r.writes.take k) := ⟨_, rfl⟩
            obtain ⟨c2, hc2⟩ : ∃ b, b = c1 ++ encS t := ⟨_, rfl⟩
            obtain ⟨c3, hc3⟩ : ∃ b, b = c2 ++ encS q := ⟨_, rfl⟩
            have hcl1 : c1.length + t.size + q.size + (encB o).length ≤ 340000000 := by rw [hc1, List.length_append]; omega
            have hcl2 : c2.length + q.size + (encB o).length ≤ 340000010 := by
              have := Lib.uvarint_length64 (x := t.size) (by omega)
              rw [hc2, List.length_append, encS_len]; omega
            have hcl3 : c3.length + (encB o).length ≤ 340000020 := by
              have := Lib.uvarint_length64 (x := q.size) (by omega)
              rw [hc3, List.length_append, encS_len]; omega
            have HA : Hid (∀ v W, Row W w.heap.size v c1 → w.heap.size ≤ W.heap.size → Calls Try.prog 41 #[v, .string t] W (Out w.heap.size c2 W)) := fun v W h1 h2 => by
              rw [hc2]; exact appendString w.heap.size t v c1 W h1 h2 (by omega)
            have HB2 : Hid (∀ v W, Row W w.heap.size v c2 → w.heap.size ≤ W.heap.size → Calls Try.prog 41 #[v, .string q] W (Out w.heap.size c3 W)) := fun v W h1 h2 => by
              rw [hc3]; exact appendString w.heap.size q v c2 W h1 h2 (by omega)
            have hvw : ∀ a n c, Value.slice sa sn sc = .slice (some a) n c → a.block < w.heap.size := fun a n c hh => Nat.lt_of_lt_of_le (hvB a n c hh) hB
            have HC2 : Hid (∀ v W, Row W w.heap.size v c3 → Below w.heap.size wr W → Calls Try.prog 42 #[v, .slice sa sn sc] W (Out w.heap.size (c3 ++ encB o) W)) := fun v W h1 h2 => appendBytes w.heap.size v (.slice sa sn sc) o c3 W (hv.belowB h2 hvw) hvw h1 (Nat.le_trans hsz h2.size) (by omega)
            have hend : b5 ++ cat encQ (r.writes.take (k + 1)) = c3 ++ encB o := by rw [hs, hc3, hc2, hc1]; simp
            rw [← hc1] at hrow
            have hrowa : Row (wr.alloc (.cells #[.string t, .string q, .slice sa sn sc] 35)) w.heap.size _ c1 := row_alloc hrow _
            have hsza : w.heap.size ≤ (wr.alloc (.cells #[.string t, .string q, .slice sa sn sc] 35)).heap.size := by simp; omega
            have hba0 : Below w.heap.size wr (wr.alloc (.cells #[.string t, .string q, .slice sa sn sc] 35)) := (Below.refl _ wr).alloc hsz _
            have HW : Hid (Below w.heap.size w wr) := hb
            clear hrow hs hp hp2 hle hle2 hc1 hc2 hc3 hv hvB hvw hsh hb
            go_wp2_with (first
              | (go_at_call 42; refine Calls.mono (HC2.out _ _ (by assumption) (by assumption)) ?_; rintro _ w9 ⟨v9, rfl, hrow9, hap9⟩)
              | (go_at_call 41; have _t := ‹Stage 41›; refine Calls.mono (HB2.out _ _ (by assumption) (by assumption)) ?_; rintro _ w7 ⟨v7, rfl, hrow7, hap7⟩; have hbel7 := Below.trans (by assumption) hap7.bel; have hap67 := Ap.trans (by assumption) hap7; have n2 := ap_new hap67 (by decide) 2 (.slice sa sn sc) rfl)
              | (go_at_call 41; refine Calls.mono (HA.out _ _ hrowa hsza) ?_; rintro _ w6 ⟨v6, rfl, hrow6, hap6⟩; have hsz6 := Nat.le_trans hsza hap6.bel.size; have hbel6 := hba0.trans hap6.bel; have n1 := ap_new hap6 (by decide) 1 (.string q) rfl; have st : Stage 41 := ⟨⟩))
            exact ⟨⟨k + 1, by omega, by go_num, by rw [hend]; exact hrow9, (HW.out.trans hbel7).trans hap9.bel⟩, by simp [intOf]; omega⟩
          · rw [cat_all encQ r.writes k (by omega)] at hrow
            go_wp2
            go_ret
            exact ⟨_, rfl, by rw [he]; exact hrow, hb⟩

end Go.Proofs.Qxb6605845a.Ec
