import Derived.Test.Qxb6605845aS17
import Derived.Deep.MidRow
namespace Go.Proofs.Qxb6605845a.Ec
set_option linter.unusedVariables false
set_option linter.unusedSimpArgs false
open Go.RowKit

theorem info_of {t : TypeId} {sz by' : Nat} (h : (Try.prog.info? t).any (fun i => i.zero.isSome && i.size == sz && i.bytes == by') = true) : ∃ i z, Try.prog.info? t = some i ∧ i.zero = some z ∧ i.size = sz ∧ i.bytes = by' := by
  cases hj : Try.prog.info? t with
  | none => rw [hj] at h; cases h
  | some i =>
    rw [hj] at h
    simp at h
    obtain ⟨⟨h1, h2⟩, h3⟩ := h
    obtain ⟨z, hz⟩ := Option.isSome_iff_exists.1 h1
    exact ⟨i, z, rfl, hz, h2, h3⟩
theorem info3 : ∃ i z, Try.prog.info? 3 = some i ∧ i.zero = some z ∧ i.size = 1 ∧ i.bytes = 8 := info_of (by kernel_rfl)
theorem info9 : ∃ i z, Try.prog.info? 9 = some i ∧ i.zero = some z ∧ i.size = 1 ∧ i.bytes = 16 := info_of (by kernel_rfl)
theorem info5' : ∃ i z, Try.prog.info? 5 = some i ∧ i.zero = some z ∧ i.size = 1 ∧ i.bytes = 1 := info_of (by kernel_rfl)
theorem info33 : ∃ i z, Try.prog.info? 33 = some i ∧ i.zero = some z ∧ i.size = 1 ∧ i.bytes = 24 := info_of (by kernel_rfl)
theorem info46 : ∃ i z, Try.prog.info? 46 = some i ∧ i.zero = some z ∧ i.size = 2 ∧ i.bytes = 32 := info_of (by kernel_rfl)
theorem info35 : ∃ i z, Try.prog.info? 35 = some i ∧ i.zero = some z ∧ i.size = 3 ∧ i.bytes = 56 := info_of (by kernel_rfl)

theorem there_of_block {W : World} {b : Nat} {cur : Array Value} {e : TypeId} (h : W.heap[b]? = some (.cells cur e (0, 0))) : W.there b 0 cur.size := by
  intro j hj
  simp [World.cell?, World.frozen?, h, hj]

theorem there_of_own {W : World} {base e size b n c : Nat} {xs : List Value} (h : W.ownsRow base e size (.slice (some ⟨b, 0, none⟩) n c) n xs) : W.there b 0 (c * size) ∧ b < W.heap.size := by
  rcases h.2 with ⟨hv, _⟩ | ⟨g, cap', cur, hv, _, hg, _, _, hcs, _⟩
  · cases hv
  · simp at hv
    obtain ⟨rfl, rfl⟩ := hv
    refine ⟨?_, (Array.getElem?_eq_some_iff.1 hg).1⟩
    rw [← hcs]
    exact there_of_block hg

theorem there_setCell {W : World} {b o n : Nat} (h : W.there b o n) (p : Addr) (v : Value) : (W.setCell p v).there b o n := by
  intro j hj
  obtain ⟨h1, h2⟩ := h j hj
  refine ⟨?_, by rw [World.frozen?_setCell]; exact h2⟩
  by_cases e : p = ⟨b, o + j, none⟩
  · subst e
    rw [World.cell?_setCell_same' W _ v h1]; rfl
  · rw [World.cell?_setCell_other W p _ v e]; exact h1

theorem IntsAt.snoc {W : World} {b : Nat} {L : List Int} {k : Nat} (h : IntsAt W b 0 (L.take k)) (hk : k < L.length) (hc : (W.cell? ⟨b, k, none⟩).isSome = true) : IntsAt (W.setCell ⟨b, k, none⟩ (.int .i64 L[k])) b 0 (L.take (k + 1)) := by
  intro j z hz
  have hj : j < (L.take (k + 1)).length := (List.getElem?_eq_some_iff.1 hz).1
  have hj2 : j < k + 1 := by simp at hj; omega
  rw [List.getElem?_take_of_lt hj2] at hz
  by_cases e : j = k
  · subst e
    rw [List.getElem?_eq_getElem hk] at hz
    obtain rfl := Option.some.inj hz
    simp only [Nat.zero_add]
    exact World.cell?_setCell_same' W _ _ hc
  · rw [World.cell?_setCell_other W _ _ _ (by simp; first | done | omega)]
    exact h j z (by rw [List.getElem?_take_of_lt (by omega)]; exact hz)

set_option maxHeartbeats 800000 in
set_option maxRecDepth 10000 in
theorem cloneInts_some (L : List Int) (a : Addr) (c : Nat) (w : World) (hA : L = [] ∨ ∃ b o, a = ⟨b, o, none⟩ ∧ IntsAt w b o L) (hl : L.length ≤ 1048576) :
    Calls Try.prog 19 #[.slice (some a) L.length c] w fun e w' => e = .returned (.slice (some ⟨w.heap.size, 0, none⟩) L.length L.length) ∧ IntsAt w' w.heap.size 0 L ∧ Below w.heap.size w w' ∧ w.heap.size < w'.heap.size := by
  obtain ⟨i, z, hi, hz, hs, hby⟩ := info3
  have hnil := fun (W : World) => eql_nil_some Try.underlying30 a L.length c W
  go_enter Try.func19, Try.ntmps19
  go_wp2_with (at_make; refine wpList_make_full _ rfl _ _ 30 rfl w.heap.size 3 i z 1 Try.underlying30 hi hz hs .i64 .i64 _ _ L.length rfl rfl rfl rfl (by rw [hby]; omega) (by unfold maxLen; omega) (Nat.le_refl _) ?_; intro w1 hown hgr)
  have hB1 : Below w.heap.size w w1 := ⟨hgr.os, hgr.tape, hgr.output, hgr.size, fun k hk => hgr.block k hk (by simp)⟩
  obtain ⟨hT1, hS1⟩ := there_of_own hown
  clear hown hgr hnil hi hz hs hby
  go_loopw [4] (fun x wr => ∃ k : Nat, k ≤ L.length ∧ x = .int .i64 k ∧ Below w.heap.size w wr ∧ wr.there w.heap.size 0 (L.length * 1) ∧ IntsAt wr w.heap.size 0 (L.take k) ∧ w.heap.size < wr.heap.size) (fun x _ => L.length - (intOf x).toNat)
  case atStart => exact ⟨0, Nat.zero_le _, rfl, hB1, hT1, by intro j k hk; simp at hk, hS1⟩
  case round =>
    clear hB1 hT1 hS1
    obtain ⟨k, hk, rfl, hb, ht, hK, hS⟩ := hrel
    by_cases hkl : k < L.length
    · rcases hA with rfl | ⟨b, o, rfl, h⟩
      · simp at hkl
      have c0 := (h.below hb) k L[k] (by simp [hkl])
      obtain ⟨t1, t2⟩ := ht k (by omega)
      simp only [Nat.zero_add] at t1 t2
      have HK : Hid (IntsAt (wr.setCell ⟨w.heap.size, k, none⟩ (.int .i64 L[k])) w.heap.size 0 (L.take (k + 1))) := hK.snoc hkl t1
      have HT : Hid ((wr.setCell ⟨w.heap.size, k, none⟩ (.int .i64 L[k])).there w.heap.size 0 (L.length * 1)) := there_setCell ht _ _
      obtain ⟨u, hu⟩ := Option.isSome_iff_exists.1 t1
      clear t1 hK ht h
      generalize L[k] = z at *
      go_wp2
      exact ⟨⟨k + 1, by omega, by go_num, hb.setCell (Nat.le_refl _) _, HT.out, HK.out, by simpa using hS⟩, by simp [intOf]; omega⟩
    · go_wp2
      go_ret
      rw [List.take_of_length_le (by omega)] at hK
      exact ⟨rfl, hK, hb, hS⟩

set_option maxHeartbeats 400000 in
theorem cloneInts_nil (w : World) : Calls Try.prog 19 #[.slice none 0 0] w fun e w' => e = .returned (.slice none 0 0) ∧ w = w' := by
  have hnil := fun (W : World) => eql_nil_none Try.underlying30 W
  go_enter Try.func19, Try.ntmps19
  go_wp2
  go_ret
  exact ⟨rfl, rfl⟩

theorem StrsAt.snoc {W : World} {b : Nat} {L : List ByteArray} {k : Nat} (h : StrsAt W b 0 (L.take k)) (hk : k < L.length) (hc : (W.cell? ⟨b, k, none⟩).isSome = true) : StrsAt (W.setCell ⟨b, k, none⟩ (.string L[k])) b 0 (L.take (k + 1)) := by
  intro j z hz
  have hj : j < (L.take (k + 1)).length := (List.getElem?_eq_some_iff.1 hz).1
  have hj2 : j < k + 1 := by simp at hj; omega
  rw [List.getElem?_take_of_lt hj2] at hz
  by_cases e : j = k
  · subst e
    rw [List.getElem?_eq_getElem hk] at hz
    obtain rfl := Option.some.inj hz
    simp only [Nat.zero_add]
    exact World.cell?_setCell_same' W _ _ hc
  · rw [World.cell?_setCell_other W _ _ _ (by simp; first | done | omega)]
    exact h j z (by rw [List.getElem?_take_of_lt (by omega)]; exact hz)

set_option maxHeartbeats 800000 in
set_option maxRecDepth 10000 in
theorem cloneStrings_some (L : List ByteArray) (a : Addr) (c : Nat) (w : World) (hA : L = [] ∨ ∃ b o, a = ⟨b, o, none⟩ ∧ StrsAt w b o L) (hl : L.length ≤ 1048576) :
    Calls Try.prog 10 #[.slice (some a) L.length c] w fun e w' => e = .returned (.slice (some ⟨w.heap.size, 0, none⟩) L.length L.length) ∧ StrsAt w' w.heap.size 0 L ∧ Below w.heap.size w w' ∧ w.heap.size < w'.heap.size := by
  obtain ⟨i, z, hi, hz, hs, hby⟩ := info9
  have hnil := fun (W : World) => eql_nil_some Try.underlying22 a L.length c W
  go_enter Try.func10, Try.ntmps10
  go_wp2_with (at_make; refine wpList_make_full _ rfl _ _ 22 rfl w.heap.size 9 i z 1 Try.underlying22 hi hz hs .i64 .i64 _ _ L.length rfl rfl rfl rfl (by rw [hby]; omega) (by unfold maxLen; omega) (Nat.le_refl _) ?_; intro w1 hown hgr)
  have hB1 : Below w.heap.size w w1 := ⟨hgr.os, hgr.tape, hgr.output, hgr.size, fun k hk => hgr.block k hk (by simp)⟩
  obtain ⟨hT1, hS1⟩ := there_of_own hown
  clear hown hgr hnil hi hz hs hby
  go_loopw [4] (fun x wr => ∃ k : Nat, k ≤ L.length ∧ x = .int .i64 k ∧ Below w.heap.size w wr ∧ wr.there w.heap.size 0 (L.length * 1) ∧ StrsAt wr w.heap.size 0 (L.take k) ∧ w.heap.size < wr.heap.size) (fun x _ => L.length - (intOf x).toNat)
  case atStart => exact ⟨0, Nat.zero_le _, rfl, hB1, hT1, by intro j k hk; simp at hk, hS1⟩
  case round =>
    clear hB1 hT1 hS1
    obtain ⟨k, hk, rfl, hb, ht, hK, hS⟩ := hrel
    by_cases hkl : k < L.length
    · rcases hA with rfl | ⟨b, o, rfl, h⟩
      · simp at hkl
      have c0 := (h.below hb) k L[k] (by simp [hkl])
      obtain ⟨t1, t2⟩ := ht k (by omega)
      simp only [Nat.zero_add] at t1 t2
      have HK : Hid (StrsAt (wr.setCell ⟨w.heap.size, k, none⟩ (.string L[k])) w.heap.size 0 (L.take (k + 1))) := hK.snoc hkl t1
      have HT : Hid ((wr.setCell ⟨w.heap.size, k, none⟩ (.string L[k])).there w.heap.size 0 (L.length * 1)) := there_setCell ht _ _
      obtain ⟨u, hu⟩ := Option.isSome_iff_exists.1 t1
      clear t1 hK ht h
      generalize L[k] = z at *
      go_wp2
      exact ⟨⟨k + 1, by omega, by go_num, hb.setCell (Nat.le_refl _) _, HT.out, HK.out, by simpa using hS⟩, by simp [intOf]; omega⟩
    · go_wp2
      go_ret
      rw [List.take_of_length_le (by omega)] at hK
      exact ⟨rfl, hK, hb, hS⟩

set_option maxHeartbeats 400000 in
theorem cloneStrings_nil (w : World) : Calls Try.prog 10 #[.slice none 0 0] w fun e w' => e = .returned (.slice none 0 0) ∧ w = w' := by
  have hnil := fun (W : World) => eql_nil_none Try.underlying22 W
  go_enter Try.func10, Try.ntmps10
  go_wp2
  go_ret
  exact ⟨rfl, rfl⟩

theorem BytesAt.snoc {W : World} {b : Nat} {L : List UInt8} {k : Nat} (h : BytesAt W b 0 (L.take k)) (hk : k < L.length) (hc : (W.cell? ⟨b, k, none⟩).isSome = true) : BytesAt (W.setCell ⟨b, k, none⟩ (.int .u8 L[k].toNat)) b 0 (L.take (k + 1)) := by
  intro j z hz
  have hj : j < (L.take (k + 1)).length := (List.getElem?_eq_some_iff.1 hz).1
  have hj2 : j < k + 1 := by simp at hj; omega
  rw [List.getElem?_take_of_lt hj2] at hz
  by_cases e : j = k
  · subst e
    rw [List.getElem?_eq_getElem hk] at hz
    obtain rfl := Option.some.inj hz
    simp only [Nat.zero_add]
    exact World.cell?_setCell_same' W _ _ hc
  · rw [World.cell?_setCell_other W _ _ _ (by simp; first | done | omega)]
    exact h j z (by rw [List.getElem?_take_of_lt (by omega)]; exact hz)

set_option maxHeartbeats 800000 in
set_option maxRecDepth 10000 in
theorem cloneBytes_some (L : List UInt8) (a : Addr) (c : Nat) (w : World) (hA : L = [] ∨ ∃ b o, a = ⟨b, o, none⟩ ∧ BytesAt w b o L) (hl : L.length ≤ 1048576) :
    Calls Try.prog 30 #[.slice (some a) L.length c] w fun e w' => e = .returned (.slice (some ⟨w.heap.size, 0, none⟩) L.length L.length) ∧ BytesAt w' w.heap.size 0 L ∧ Below w.heap.size w w' ∧ w.heap.size < w'.heap.size := by
  obtain ⟨i, z, hi, hz, hs, hby⟩ := info5'
  have hnil := fun (W : World) => eql_nil_some Try.underlying33 a L.length c W
  go_enter Try.func30, Try.ntmps30
  go_wp2_with (at_make; refine wpList_make_full _ rfl _ _ 33 rfl w.heap.size 5 i z 1 Try.underlying33 hi hz hs .i64 .i64 _ _ L.length rfl rfl rfl rfl (by rw [hby]; omega) (by unfold maxLen; omega) (Nat.le_refl _) ?_; intro w1 hown hgr)
  have hB1 : Below w.heap.size w w1 := ⟨hgr.os, hgr.tape, hgr.output, hgr.size, fun k hk => hgr.block k hk (by simp)⟩
  obtain ⟨hT1, hS1⟩ := there_of_own hown
  clear hown hgr hnil hi hz hs hby
  go_loopw [4] (fun x wr => ∃ k : Nat, k ≤ L.length ∧ x = .int .i64 k ∧ Below w.heap.size w wr ∧ wr.there w.heap.size 0 (L.length * 1) ∧ BytesAt wr w.heap.size 0 (L.take k) ∧ w.heap.size < wr.heap.size) (fun x _ => L.length - (intOf x).toNat)
  case atStart => exact ⟨0, Nat.zero_le _, rfl, hB1, hT1, by intro j k hk; simp at hk, hS1⟩
  case round =>
    clear hB1 hT1 hS1
    obtain ⟨k, hk, rfl, hb, ht, hK, hS⟩ := hrel
    by_cases hkl : k < L.length
    · rcases hA with rfl | ⟨b, o, rfl, h⟩
      · simp at hkl
      have c0 := (h.below hb) k L[k] (by simp [hkl])
      obtain ⟨t1, t2⟩ := ht k (by omega)
      simp only [Nat.zero_add] at t1 t2
      have HK : Hid (BytesAt (wr.setCell ⟨w.heap.size, k, none⟩ (.int .u8 L[k].toNat)) w.heap.size 0 (L.take (k + 1))) := hK.snoc hkl t1
      have HT : Hid ((wr.setCell ⟨w.heap.size, k, none⟩ (.int .u8 L[k].toNat)).there w.heap.size 0 (L.length * 1)) := there_setCell ht _ _
      obtain ⟨u, hu⟩ := Option.isSome_iff_exists.1 t1
      clear t1 hK ht h
      generalize L[k] = z at *
      go_wp2
      exact ⟨⟨k + 1, by omega, by go_num, hb.setCell (Nat.le_refl _) _, HT.out, HK.out, by simpa using hS⟩, by simp [intOf]; omega⟩
    · go_wp2
      go_ret
      rw [List.take_of_length_le (by omega)] at hK
      exact ⟨rfl, hK, hb, hS⟩

set_option maxHeartbeats 400000 in
theorem cloneBytes_nil (w : World) : Calls Try.prog 30 #[.slice none 0 0] w fun e w' => e = .returned (.slice none 0 0) ∧ w = w' := by
  have hnil := fun (W : World) => eql_nil_none Try.underlying33 W
  go_enter Try.func30, Try.ntmps30
  go_wp2
  go_ret
  exact ⟨rfl, rfl⟩

end Go.Proofs.Qxb6605845a.Ec
