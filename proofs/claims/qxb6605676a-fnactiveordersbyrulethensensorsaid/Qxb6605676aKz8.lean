import Derived.Test.Qxb6605676aKz7
namespace Go.Proofs.Qxb6605676a.Kz
set_option linter.unusedVariables false
set_option linter.unusedSimpArgs false
open Go.RowKit Go.Proofs.Qxb6605676a.Mp Go.Proofs.Qxb6605676a.Tm Go.Proofs.Qxb6605676a.En

theorem info159 : ∃ i z, Try.prog.info? 159 = some i ∧ i.zero = some z ∧ i.size = 3 ∧ i.bytes = 40 := by
  have h : (Try.prog.info? 159).any (fun i => i.zero.isSome && i.size == 3 && i.bytes == 40) = true := by kernel_rfl
  cases hj : Try.prog.info? 159 with
  | none => rw [hj] at h; cases h
  | some i =>
    rw [hj] at h
    simp at h
    obtain ⟨⟨h1, h2⟩, h3⟩ := h
    obtain ⟨z, hz⟩ := Option.isSome_iff_exists.1 h1
    exact ⟨i, z, rfl, hz, h2, h3⟩

theorem SeriesAt.range {w : World} {b o : Nat} {L : List ZS} (h : SeriesAt w b o L) (j : Nat) (hj : j < L.length) : w.rangeAt b (o + j * 3) (zsCells L[j]) := by
  intro c v hv
  exact h j L[j] (by simp [hj]) c v hv

theorem zsLen (k : ZS) : (zsCells k).length = 3 := rfl
theorem SeriesAt.snoc {W : World} {b k : Nat} {L : List ZS} (h : SeriesAt W b 0 (L.take k)) (hk : k < L.length) (ht : W.there b (k * 3) (zsCells L[k]).toArray.size) : SeriesAt (W.setCells b (k * 3) (zsCells L[k]).toArray.toList) b 0 (L.take (k + 1)) := by
  intro j q hq c v hv
  have hj : j < (L.take (k + 1)).length := (List.getElem?_eq_some_iff.1 hq).1
  have hj2 : j < k + 1 := by simp at hj; omega
  have hc : c < 3 := by have := (List.getElem?_eq_some_iff.1 hv).1; rw [zsLen] at this; exact this
  rw [List.getElem?_take_of_lt hj2] at hq
  by_cases e : j = k
  · subst e
    rw [List.getElem?_eq_getElem hk] at hq
    obtain rfl := Option.some.inj hq
    have hr := World.rangeAt_setCells_same W b (j * 3) (zsCells L[j]).toArray.toList (by simpa using ht)
    have := hr c v (by simpa using hv)
    simpa using this
  · rw [World.cell?_setCells_out b _ _ W _ (fun _ _ => .inl (by simp; omega))]
    exact h j q (by rw [List.getElem?_take_of_lt (by omega)]; exact hq) c v hv

theorem zsOne (k : ZS) : (zsCells k).toArray.all (·.oneCell') = true := by simp [zsCells, Value.oneCell']

set_option maxHeartbeats 400000 in
set_option maxRecDepth 10000 in
theorem zzcopySeries_some (L : List ZS) (kb o cap : Nat) (w : World) (hL : SeriesAt w kb o L) (hl : L.length ≤ 4096) :
    Calls Try.prog 25 #[.slice (some ⟨kb, o, none⟩) L.length cap] w fun e w' => e = .returned (.slice (some ⟨w.heap.size, 0, none⟩) L.length L.length) ∧ Below w.heap.size w w' ∧ SeriesAt w' w.heap.size 0 L := by
  obtain ⟨i, z, hi, hz, hs, hby⟩ := info159
  have hnil := fun (W : World) => eql_nil Try.underlying46 (some ⟨kb, o, none⟩) L.length cap W
  simp only [Option.isNone_some] at hnil
  go_enter Try.func25, Try.ntmps25
  go_wp2_with (at_make; refine wpList_make_full _ rfl _ _ 46 rfl w.heap.size 159 i z 3 Try.underlying46 hi hz hs .i64 .i64 _ _ L.length rfl rfl rfl rfl (by rw [hby]; omega) (by unfold maxLen; omega) (Nat.le_refl _) ?_; intro w1 hown hgr)
  have hB1 : Below w.heap.size w w1 := ⟨hgr.os, hgr.tape, hgr.output, hgr.size, fun k hk => hgr.block k hk (by simp)⟩
  have hT1 : w1.there w.heap.size 0 (L.length * 3) := by
    rcases hown.2 with ⟨hv, _⟩ | ⟨g, cap', cur, hv, _, hg, _, _, hcs, _⟩
    · cases hv
    · simp at hv
      obtain ⟨rfl, rfl⟩ := hv
      rw [← hcs]
      exact there_of_block hg
  clear hown hgr hnil hi hz hs hby
  go_loopw [4] (fun x wr => ∃ k : Nat, k ≤ L.length ∧ x = .int .i64 k ∧ Below w.heap.size w wr ∧ wr.there w.heap.size 0 (L.length * 3) ∧ SeriesAt wr w.heap.size 0 (L.take k)) (fun x _ => L.length - (intOf x).toNat)
  case atStart => exact ⟨0, Nat.zero_le _, rfl, hB1, hT1, by intro j k hk; simp at hk⟩
  case round =>
    obtain ⟨k, hk, rfl, hb, ht, hK⟩ := hrel
    by_cases hkl : k < L.length
    · have HR : Hid (wr.rangeAt kb (o + k * 3) (zsCells L[k])) := (hL.below hb).range k hkl
      have hi159 : (Try.prog.info? 159).map (·.size) = some (zsCells L[k]).toArray.size := by kernel_rfl
      have HT : Hid (wr.there w.heap.size (k * 3) (zsCells L[k]).toArray.size) := there_mono ht (by omega) (by simp [zsCells]; omega)
      have hi2 : (Try.prog.info? 159).map (·.size) = some (zsCells L[k]).length := by kernel_rfl
      go_wp2_with (first | (with_reducible show wpList _ _ _ (⟨some 21, .load 159 (.tmp 20), _, _, _, _⟩ :: _) _ _; refine wpList_load_mid ?_ 159 (.tmp 20) ?_ kb (o + k * 3) ?_ (zsCells L[k]) _ HR.out Try.underlying159 rfl hi2 ?_; exact rfl; exact rfl; simp [Act.eval]) | (with_reducible show wpList _ _ _ (⟨none, .store 159 (.tmp 22) (.tmp 21), _, _, _, _⟩ :: _) _ _; refine wpList_store_mid ?_ 159 (.tmp 22) (.tmp 21) ?_ w.heap.size (k * 3) (zsCells L[k]).toArray ?_ ?_ HT.out hi159 (zsOne _) ?_; exact rfl; exact rfl; simp [Act.eval]; simp [Act.eval]))
      exact ⟨⟨k + 1, by omega, by go_num, below_setCells (Nat.le_refl _) _ _ _ hb, World.there_setCells ht _ _ _, hK.snoc hkl HT.out⟩, by simp [intOf]; omega⟩
    · go_wp2
      go_ret
      have hd : L.take k = L := List.take_of_length_le (by omega)
      rw [hd] at hK
      exact ⟨rfl, hb, hK⟩

set_option maxHeartbeats 400000 in
theorem zzcopySeries_none (w : World) : Calls Try.prog 25 #[.slice none 0 0] w fun e w' => e = .returned (.slice none 0 0) ∧ w = w' := by
  have hnil := fun (W : World) => eql_nil Try.underlying46 none 0 0 W
  simp only [Option.isNone_none] at hnil
  go_enter Try.func25, Try.ntmps25
  go_wp2
  go_ret
  exact ⟨rfl, rfl⟩

theorem info62 : ∃ i z, Try.prog.info? 62 = some i ∧ i.zero = some z ∧ i.size = 7 ∧ i.bytes = 88 := by
  have h : (Try.prog.info? 62).any (fun i => i.zero.isSome && i.size == 7 && i.bytes == 88) = true := by kernel_rfl
  cases hj : Try.prog.info? 62 with
  | none => rw [hj] at h; cases h
  | some i =>
    rw [hj] at h
    simp at h
    obtain ⟨⟨h1, h2⟩, h3⟩ := h
    obtain ⟨z, hz⟩ := Option.isSome_iff_exists.1 h1
    exact ⟨i, z, rfl, hz, h2, h3⟩

theorem RaisedAt.range {w : World} {b o : Nat} {L : List ZR} (h : RaisedAt w b o L) (j : Nat) (hj : j < L.length) : w.rangeAt b (o + j * 7) (zrCells L[j]) := by
  intro c v hv
  exact h j L[j] (by simp [hj]) c v hv

theorem zrLen (k : ZR) : (zrCells k).length = 7 := rfl
theorem RaisedAt.snoc {W : World} {b k : Nat} {L : List ZR} (h : RaisedAt W b 0 (L.take k)) (hk : k < L.length) (ht : W.there b (k * 7) (zrCells L[k]).toArray.size) : RaisedAt (W.setCells b (k * 7) (zrCells L[k]).toArray.toList) b 0 (L.take (k + 1)) := by
  intro j q hq c v hv
  have hj : j < (L.take (k + 1)).length := (List.getElem?_eq_some_iff.1 hq).1
  have hj2 : j < k + 1 := by simp at hj; omega
  have hc : c < 7 := by have := (List.getElem?_eq_some_iff.1 hv).1; rw [zrLen] at this; exact this
  rw [List.getElem?_take_of_lt hj2] at hq
  by_cases e : j = k
  · subst e
    rw [List.getElem?_eq_getElem hk] at hq
    obtain rfl := Option.some.inj hq
    have hr := World.rangeAt_setCells_same W b (j * 7) (zrCells L[j]).toArray.toList (by simpa using ht)
    have := hr c v (by simpa using hv)
    simpa using this
  · rw [World.cell?_setCells_out b _ _ W _ (fun _ _ => .inl (by simp; omega))]
    exact h j q (by rw [List.getElem?_take_of_lt (by omega)]; exact hq) c v hv

theorem zrOne (k : ZR) : (zrCells k).toArray.all (·.oneCell') = true := by simp [zrCells, Value.oneCell']

set_option maxHeartbeats 400000 in
set_option maxRecDepth 10000 in
theorem zzcopyRaised_some (L : List ZR) (kb o cap : Nat) (w : World) (hL : RaisedAt w kb o L) (hl : L.length ≤ 4096) :
    Calls Try.prog 26 #[.slice (some ⟨kb, o, none⟩) L.length cap] w fun e w' => e = .returned (.slice (some ⟨w.heap.size, 0, none⟩) L.length L.length) ∧ Below w.heap.size w w' ∧ RaisedAt w' w.heap.size 0 L := by
  obtain ⟨i, z, hi, hz, hs, hby⟩ := info62
  have hnil := fun (W : World) => eql_nil Try.underlying47 (some ⟨kb, o, none⟩) L.length cap W
  simp only [Option.isNone_some] at hnil
  go_enter Try.func26, Try.ntmps26
  go_wp2_with (at_make; refine wpList_make_full _ rfl _ _ 47 rfl w.heap.size 62 i z 7 Try.underlying47 hi hz hs .i64 .i64 _ _ L.length rfl rfl rfl rfl (by rw [hby]; omega) (by unfold maxLen; omega) (Nat.le_refl _) ?_; intro w1 hown hgr)
  have hB1 : Below w.heap.size w w1 := ⟨hgr.os, hgr.tape, hgr.output, hgr.size, fun k hk => hgr.block k hk (by simp)⟩
  have hT1 : w1.there w.heap.size 0 (L.length * 7) := by
    rcases hown.2 with ⟨hv, _⟩ | ⟨g, cap', cur, hv, _, hg, _, _, hcs, _⟩
    · cases hv
    · simp at hv
      obtain ⟨rfl, rfl⟩ := hv
      rw [← hcs]
      exact there_of_block hg
  clear hown hgr hnil hi hz hs hby
  go_loopw [4] (fun x wr => ∃ k : Nat, k ≤ L.length ∧ x = .int .i64 k ∧ Below w.heap.size w wr ∧ wr.there w.heap.size 0 (L.length * 7) ∧ RaisedAt wr w.heap.size 0 (L.take k)) (fun x _ => L.length - (intOf x).toNat)
  case atStart => exact ⟨0, Nat.zero_le _, rfl, hB1, hT1, by intro j k hk; simp at hk⟩
  case round =>
    obtain ⟨k, hk, rfl, hb, ht, hK⟩ := hrel
    by_cases hkl : k < L.length
    · have HR : Hid (wr.rangeAt kb (o + k * 7) (zrCells L[k])) := (hL.below hb).range k hkl
      have hi62 : (Try.prog.info? 62).map (·.size) = some (zrCells L[k]).toArray.size := by kernel_rfl
      have HT : Hid (wr.there w.heap.size (k * 7) (zrCells L[k]).toArray.size) := there_mono ht (by omega) (by simp [zrCells]; omega)
      have hi2 : (Try.prog.info? 62).map (·.size) = some (zrCells L[k]).length := by kernel_rfl
      go_wp2_with (first | (with_reducible show wpList _ _ _ (⟨some 21, .load 62 (.tmp 20), _, _, _, _⟩ :: _) _ _; refine wpList_load_mid ?_ 62 (.tmp 20) ?_ kb (o + k * 7) ?_ (zrCells L[k]) _ HR.out Try.underlying62 rfl hi2 ?_; exact rfl; exact rfl; simp [Act.eval]) | (with_reducible show wpList _ _ _ (⟨none, .store 62 (.tmp 22) (.tmp 21), _, _, _, _⟩ :: _) _ _; refine wpList_store_mid ?_ 62 (.tmp 22) (.tmp 21) ?_ w.heap.size (k * 7) (zrCells L[k]).toArray ?_ ?_ HT.out hi62 (zrOne _) ?_; exact rfl; exact rfl; simp [Act.eval]; simp [Act.eval]))
      exact ⟨⟨k + 1, by omega, by go_num, below_setCells (Nat.le_refl _) _ _ _ hb, World.there_setCells ht _ _ _, hK.snoc hkl HT.out⟩, by simp [intOf]; omega⟩
    · go_wp2
      go_ret
      have hd : L.take k = L := List.take_of_length_le (by omega)
      rw [hd] at hK
      exact ⟨rfl, hb, hK⟩

set_option maxHeartbeats 400000 in
theorem zzcopyRaised_none (w : World) : Calls Try.prog 26 #[.slice none 0 0] w fun e w' => e = .returned (.slice none 0 0) ∧ w = w' := by
  have hnil := fun (W : World) => eql_nil Try.underlying47 none 0 0 W
  simp only [Option.isNone_none] at hnil
  go_enter Try.func26, Try.ntmps26
  go_wp2
  go_ret
  exact ⟨rfl, rfl⟩

end Go.Proofs.Qxb6605676a.Kz
