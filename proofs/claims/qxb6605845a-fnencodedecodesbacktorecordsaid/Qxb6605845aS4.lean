import Derived.Test.Qxb6605845aS3
namespace Go.Proofs.Qxb6605845a.Ec
set_option linter.unusedVariables false
set_option linter.unusedSimpArgs false
open Go.RowKit

theorem cells_bytes {w : World} {b : Nat} {L : List UInt8} (h : BytesAt w b 0 L) (j : Nat) (u : Value) (hu : (Lib.byteCells L)[j]? = some u) : w.cell? ((⟨b, 0, none⟩ : Addr).add j) = some u := by
  simp only [Lib.byteCells, List.getElem?_map, Option.map_eq_some_iff] at hu
  obtain ⟨x, hx, rfl⟩ := hu
  have h1 := h j x hx
  by_cases hj : j = 0
  · subst hj; simpa [Addr.add] using h1
  · simpa [Addr.add, hj] using h1

theorem byteCells_one (l : List UInt8) : ∀ v ∈ Lib.byteCells l, v.oneCell' = true := by
  intro v hv
  simp only [Lib.byteCells, List.mem_map] at hv
  obtain ⟨x, _, rfl⟩ := hv
  rfl

theorem BytesAt.belowB {w w' : World} {b o B : Nat} {L : List UInt8} (h : BytesAt w b o L) (hb : Below B w w') (hB : b < B) : BytesAt w' b o L := by
  intro j z hz
  have := h j z hz
  rw [hb.cell hB]; exact this
theorem IntsAt.belowB {w w' : World} {b o B : Nat} {L : List Int} (h : IntsAt w b o L) (hb : Below B w w') (hB : b < B) : IntsAt w' b o L := by
  intro j z hz
  have := h j z hz
  rw [hb.cell hB]; exact this

theorem row_one {w : World} {B : Nat} {v : Value} {bs : List UInt8} {x : UInt8} {n : Nat} (hn : n = bs.length) (h : w.ownsRow B 5 1 v (n + 1) (Lib.byteCells bs ++ [Value.int .u8 x.toNat])) : Row w B v (bs ++ [x]) := by
  unfold Row
  rw [Lib.byteCells_append, List.length_append]
  subst hn
  exact h

set_option maxHeartbeats 800000 in
set_option maxRecDepth 100000 in
theorem appendBytes_nil (B : Nat) (sv : Value) (bs : List UInt8) (w : World) (hown : Row w B sv bs) (hBw : B ≤ w.heap.size) (hlim : bs.length + 30 ≤ 140737488355328) :
    Calls Try.prog 42 #[sv, .slice none 0 0] w (App B bs (encB none) w) := by
  obtain ⟨i0, hi, hz0, hz1, hz2⟩ := info5
  have hnil := fun (W : World) => eql_nil_none Try.underlying33 W
  unfold Row at hown
  go_enter Try.func42, Try.ntmps42
  go_wp2_with (at_builtin; refine wpList_append_own _ rfl _ _ 33 rfl B 5 i0 (.int .u8 0) 1 1 Try.underlying33 hi hz0 hz1 hz2 rfl (by decide) _ _ _ rfl (hown.alloc _) ⟨w.heap.size, 0, none⟩ 1 1 [Value.int .u8 0] rfl rfl ?c1 ?c2 ?c3 ?c4 ?c5 ?_)
  case c1 =>
    intro j u hj
    match j, hj with
    | 0, hj => simp at hj; subst hj; simp [Addr.add]
  case c2 => intro u hu; simp at hu; subst hu; rfl
  case c3 => unfold maxLen; omega
  case c4 => omega
  case c5 => simp; omega
  intro v' w1 hown' hgrow _
  have hnx1 : Ap B w w1 := ((Ap.refl B w).alloc (by omega) _).append (hown.alloc _) hgrow (by simp; omega)
  go_wp2
  go_ret
  exact ⟨v', rfl, row_one (x := 0) rfl hown', hnx1⟩

set_option maxHeartbeats 1600000 in
set_option maxRecDepth 100000 in
theorem appendBytes_row (B : Nat) (sv : Value) (bs : List UInt8) (w : World) (b c : Nat) (L : List UInt8) (hL : BytesAt w b 0 L) (hb : b < B) (hown : Row w B sv bs) (hBw : B ≤ w.heap.size) (hlim : bs.length + L.length + 30 ≤ 140737488355328) :
    Calls Try.prog 42 #[sv, .slice (some ⟨b, 0, none⟩) L.length c] w (App B bs (encB (some L)) w) := by
  obtain ⟨i0, hi, hz0, hz1, hz2⟩ := info5
  have hnil := fun (W : World) => eql_nil_some Try.underlying33 ⟨b, 0, none⟩ L.length c W
  have hlen := Lib.uvarint_length64 (x := L.length) (by omega)
  unfold Row at hown
  go_enter Try.func42, Try.ntmps42
  go_wp2_with (at_builtin; refine wpList_append_own _ rfl _ _ 33 rfl B 5 i0 (.int .u8 0) 1 1 Try.underlying33 hi hz0 hz1 hz2 rfl (by decide) _ _ _ rfl (hown.alloc _) ⟨w.heap.size, 0, none⟩ 1 1 [Value.int .u8 1] rfl rfl ?c1 ?c2 ?c3 ?c4 ?c5 ?_)
  case c1 =>
    intro j u hj
    match j, hj with
    | 0, hj => simp at hj; subst hj; simp [Addr.add]
  case c2 => intro u hu; simp at hu; subst hu; rfl
  case c3 => unfold maxLen; omega
  case c4 => omega
  case c5 => simp; omega
  intro v' w1 hown' hgrow _
  have hnx1 : Ap B w w1 := ((Ap.refl B w).alloc (by omega) _).append (hown.alloc _) hgrow (by simp; omega)
  have hown1 : Row w1 B v' (bs ++ [1]) := row_one (x := 1) rfl hown'
  clear hown' hgrow
  have hsz := hnx1.bel.size
  have hbl : (bs ++ [1]).length = bs.length + 1 := by simp
  have H38 : Hid (Calls Try.prog 38 #[v', .int .u64 L.length] w1 (App B (bs ++ [1]) (Lib.uvarint L.length) w1)) := appendUvarint B L.length (by omega) v' (bs ++ [1]) w1 hown1 (by omega) (by omega)
  clear hown1
  generalize hb1 : bs ++ [1] = b1 at *
  have HL : Hid (BytesAt w b 0 L) := hL
  clear hL
  go_wp2_with (first
    | (go_at_call 38; refine Calls.mono H38.out ?_; rintro _ w2 ⟨v2, rfl, hown2, hap2⟩
       have hsz2 := hap2.bel.size
       have hbl2 : (b1 ++ Lib.uvarint L.length).length = b1.length + (Lib.uvarint L.length).length := List.length_append
       have HL2 : Hid (BytesAt w2 b 0 L) := BytesAt.belowB HL.out (hnx1.bel.trans hap2.bel) hb
       unfold Row at hown2
       generalize hbp : b1 ++ Lib.uvarint L.length = bp at *)
    | (at_builtin; refine wpList_append_own _ rfl _ _ 33 rfl B 5 i0 (.int .u8 0) 1 1 Try.underlying33 hi hz0 hz1 hz2 rfl (by decide) _ _ _ rfl (by assumption) ⟨b, 0, none⟩ L.length c (Lib.byteCells L) rfl (by rw [Lib.byteCells_length]; omega) ?c1 ?c2 ?c3 ?c4 ?c5 ?_))
  case c1 => exact cells_bytes HL2.out
  case c2 => exact byteCells_one L
  case c3 => unfold maxLen; omega
  case c4 => omega
  case c5 => omega
  intro v3 w3 hown3 hgrow3 _
  go_wp2
  go_ret
  refine ⟨v3, rfl, ?_, (hnx1.trans hap2).append hown2 hgrow3 (by omega)⟩
  have e1 : bs ++ encB (some L) = bp ++ L := by rw [← hbp, ← hb1]; simp [encB]
  rw [e1]
  unfold Row
  rw [Lib.byteCells_append, List.length_append, hbl2, hbl]
  exact hown3

theorem appendBytes (B : Nat) (sv v : Value) (o : Option (List UInt8)) (bs : List UInt8) (w : World) (hv : BVal w v o) (hvB : ∀ a n c, v = .slice (some a) n c → a.block < B) (hown : Row w B sv bs) (hBw : B ≤ w.heap.size) (hlim : bs.length + (encB o).length + 30 ≤ 140737488355328) :
    Calls Try.prog 42 #[sv, v] w (App B bs (encB o) w) := by
  cases hv with
  | nil => exact appendBytes_nil B sv bs w hown hBw (by omega)
  | row b L c h => exact appendBytes_row B sv bs w b c L h (hvB _ _ _ rfl) hown hBw (by simp [encB] at hlim; omega)

set_option maxHeartbeats 800000 in
theorem appendIndexes_row (B : Nat) (sv : Value) (bs : List UInt8) (w : World) (b c : Nat) (L : List Int) (hL : IntsAt w b 0 L) (hb : b < B) (hown : Row w B sv bs) (hBw : B ≤ w.heap.size) (hlim : bs.length + (encI L).length + L.length + 30 ≤ 140737488355328) :
    Calls Try.prog 40 #[sv, .slice (some ⟨b, 0, none⟩) L.length c] w (App B bs (encI L) w) := by
  have hlen := Lib.uvarint_length64 (x := L.length) (by omega)
  have he : (encI L).length = (Lib.uvarint L.length).length + (cat uz L).length := by simp [encI]
  go_enter Try.func40, Try.ntmps40
  go_wp2_with (go_at_call 38; refine (appendUvarint B L.length (by omega) sv bs w hown hBw (by omega)).mono ?_; rintro _ w1 ⟨v1, rfl, hown1, hap1⟩)
  go_loopw [0, 14] (fun vb x wr => ∃ k : Nat, k ≤ L.length ∧ x = .int .i64 k ∧ Row wr B vb (bs ++ Lib.uvarint L.length ++ cat uz (L.take k)) ∧ Ap B w wr) (fun _ x _ => L.length - (intOf x).toNat)
  case atStart => exact ⟨0, Nat.zero_le _, rfl, by rw [cat_zero]; simpa using hown1, hap1⟩
  case round =>
    obtain ⟨k, hk, rfl, hrow, hap⟩ := hrel
    have hsz := hap.bel.size
    by_cases hkl : k < L.length
    · have c0 := (hL.belowB hap.bel hb) k L[k] (by simp [hkl])
      simp only [Nat.zero_add] at c0
      have hle := cat_le uz L k
      have hbl : (bs ++ Lib.uvarint L.length ++ cat uz (L.take k)).length = bs.length + (Lib.uvarint L.length).length + (cat uz (L.take k)).length := by simp; omega
      have H : Hid (Calls Try.prog 38 #[u0, .int .u64 (IntKind.u64.wrap L[k])] wr (App B (bs ++ Lib.uvarint L.length ++ cat uz (L.take k)) (Lib.uvarint (u64 L[k])) wr)) := appendUvarintZ B L[k] u0 _ wr hrow (by omega) (by omega)
      have hs := cat_succ uz L k hkl
      clear hrow hbl
      generalize hzz : L[k] = z at *
      clear hzz
      go_wp2_with (go_at_call 38; refine Calls.mono H.out ?_; rintro _ w2 ⟨v2, rfl, hown2, hap2⟩)
      exact ⟨⟨k + 1, by omega, by go_num, by rw [hs, ← List.append_assoc]; exact hown2, hap.trans hap2⟩, by simp [intOf]; omega⟩
    · rw [cat_all uz L k (by omega)] at hrow
      go_wp2
      go_ret
      exact ⟨_, rfl, by simpa [encI] using hrow, hap⟩

set_option maxHeartbeats 800000 in
theorem appendIndexes_nil (B : Nat) (sv : Value) (bs : List UInt8) (w : World) (hown : Row w B sv bs) (hBw : B ≤ w.heap.size) (hlim : bs.length + 30 ≤ 140737488355328) :
    Calls Try.prog 40 #[sv, .slice none 0 0] w (App B bs (encI []) w) := by
  go_enter Try.func40, Try.ntmps40
  go_wp2_with (go_at_call 38; refine (appendUvarint B 0 (by omega) sv bs w hown hBw (by omega)).mono ?_; rintro _ w1 ⟨v1, rfl, hown1, hap1⟩)
  refine wp_loop_rounds 1 ?_
  rw [rounds_succ]
  go_wp2
  go_ret
  exact ⟨_, rfl, by simpa [encI, cat] using hown1, hap1⟩

theorem appendIndexes (B : Nat) (sv v : Value) (L : List Int) (bs : List UInt8) (w : World) (hv : IVal w v L) (hvB : ∀ a n c, v = .slice (some a) n c → a.block < B) (hown : Row w B sv bs) (hBw : B ≤ w.heap.size) (hlim : bs.length + (encI L).length + L.length + 30 ≤ 140737488355328) :
    Calls Try.prog 40 #[sv, v] w (App B bs (encI L) w) := by
  cases hv with
  | nil => exact appendIndexes_nil B sv bs w hown hBw (by omega)
  | row b L c h => exact appendIndexes_row B sv bs w b c L h (hvB _ _ _ rfl) hown hBw hlim

theorem IdAt.ap {w w' : World} {b o B : Nat} {site : ByteArray} {node : Int} {seq : Nat} (h : IdAt w b o site node seq) (hb : Below B w w') (hB : b < B) : IdAt w' b o site node seq :=
  ⟨by rw [hb.cell hB]; exact h.c0, by rw [hb.cell hB]; exact h.c1, by rw [hb.cell hB]; exact h.c2⟩

end Go.Proofs.Qxb6605845a.Ec
