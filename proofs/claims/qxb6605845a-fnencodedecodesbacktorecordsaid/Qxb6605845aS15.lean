import Derived.Test.Qxb6605845aS12
import Derived.Test.Qxb6605845aS13
import Derived.Test.Qxb6605845aS14
namespace Go.Proofs.Qxb6605845a.Ec
set_option linter.unusedVariables false
set_option linter.unusedSimpArgs false
open Go.RowKit

theorem encTail_le (k : Nat) {r : RecD} (ok : RecOk r) : (enc k r).length ≤ 1073741824 := by
  have a1 := encD_len ok
  have a2 := ok.parts
  have a3 := ok.reads
  have a4 := ok.writes
  have b1 := Lib.uvarint_length64 (x := r.seq) (by have := ok.seq; omega)
  have b2 := Lib.uvarint_length64 (x := r.ticket) (by have := ok.ticket; omega)
  have b3 := Lib.uvarint_length64 (x := 0) (by omega)
  unfold enc encTail
  simp only [List.length_cons]
  (repeat' split) <;> first | omega | (simp only [List.length_append, List.length_nil]; omega)

/-- encode: the bytes of the encoding, in a row of its own. -/
theorem encode_any (k B rb : Nat) (pv : Value) (rdb rc wrb wc : Nat) (r : RecD) (w : World) (h : RecAt w B rb k pv rdb rc wrb wc r) (ok : RecOk r) (hB : B ≤ w.heap.size) (hk : 1 ≤ k ∧ k ≤ 7) :
    Calls Try.prog 32 #[.pointer (some ⟨rb, 0, none⟩)] w fun e w' => ∃ v', e = .returned v' ∧ Row w' w.heap.size v' (enc k r) ∧ Below w.heap.size w w' := by
  have hks : k = 1 ∨ k = 2 ∨ k = 3 ∨ k = 4 ∨ k = 5 ∨ k = 6 ∨ k = 7 := by omega
  rcases hks with rfl | rfl | rfl | rfl | rfl | rfl | rfl
  · exact encode_1 B rb pv rdb rc wrb wc r w h ok hB (encTail_le _ ok)
  · exact encode_2 B rb pv rdb rc wrb wc r w h ok hB (encTail_le _ ok)
  · exact encode_3 B rb pv rdb rc wrb wc r w h ok hB (encTail_le _ ok)
  · exact encode_4 B rb pv rdb rc wrb wc r w h ok hB (encTail_le _ ok)
  · exact encode_5 B rb pv rdb rc wrb wc r w h ok hB (encTail_le _ ok)
  · exact encode_6 B rb pv rdb rc wrb wc r w h ok hB (encTail_le _ ok)
  · exact encode_7 B rb pv rdb rc wrb wc r w h ok hB (encTail_le _ ok)

/-- A row of bytes that is not empty, written out. -/
theorem Row.out {w : World} {B : Nat} {v : Value} {x : UInt8} {bs : List UInt8} (h : Row w B v (x :: bs)) : ∃ b c, v = .slice (some ⟨b, 0, none⟩) (x :: bs).length c ∧ B ≤ b ∧ BytesAt w b 0 (x :: bs) := by
  rcases h.2 with ⟨_, hn⟩ | ⟨g, cap, cur, hv, hB, hg, hn, hc, hs, ht⟩
  · simp at hn
  · refine ⟨g, cap, hv, hB, ?_⟩
    intro j y hy
    have h1 : (Lib.byteCells (x :: bs))[j]? = some (.int .u8 y.toNat) := by rw [Lib.byteCells, List.getElem?_map, hy]; rfl
    rw [← ht] at h1
    have hj : j < (x :: bs).length * 1 := by
      have := (List.getElem?_eq_some_iff.1 hy).1
      omega
    rw [List.getElem?_take_of_lt hj] at h1
    simp only [World.cell?, hg, Nat.zero_add]
    simpa using h1

set_option maxHeartbeats 400000 in
theorem zzencode (k B rb : Nat) (pv : Value) (rdb rc wrb wc : Nat) (r : RecD) (w : World) (h : RecAt w B rb k pv rdb rc wrb wc r) (ok : RecOk r) (hB : B ≤ w.heap.size) (hk : 1 ≤ k ∧ k ≤ 7) :
    Calls Try.prog 23 #[.pointer (some ⟨rb, 0, none⟩)] w fun e w' => ∃ b c, e = .returned (.slice (some ⟨b, 0, none⟩) (enc k r).length c) ∧ w.heap.size ≤ b ∧ BytesAt w' b 0 (enc k r) ∧ Below w.heap.size w w' := by
  have H : Hid (Calls Try.prog 32 #[.pointer (some ⟨rb, 0, none⟩)] w fun e w' => ∃ b c, e = .returned (.slice (some ⟨b, 0, none⟩) (enc k r).length c) ∧ w.heap.size ≤ b ∧ BytesAt w' b 0 (enc k r) ∧ Below w.heap.size w w') := by
    refine (encode_any k B rb pv rdb rc wrb wc r w h ok hB hk).mono ?_
    rintro e w' ⟨v', rfl, hrow, hb⟩
    obtain ⟨b, c, rfl, h1, h2⟩ := Row.out hrow
    exact ⟨b, c, rfl, h1, h2, hb⟩
  clear h
  go_enter Try.func23, Try.ntmps23
  go_wp2_with (go_at_call 32; refine Calls.mono H.out ?_; rintro _ w1 ⟨b, c, rfl, h1, h2, h3⟩)
  go_ret
  exact ⟨b, c, rfl, h1, h2, h3⟩

set_option maxHeartbeats 400000 in
theorem zzsize (k B rb : Nat) (pv : Value) (rdb rc wrb wc : Nat) (r : RecD) (w : World) (h : RecAt w B rb k pv rdb rc wrb wc r) (ok : RecOk r) (hB : B ≤ w.heap.size) (hk : 1 ≤ k ∧ k ≤ 7) :
    Calls Try.prog 24 #[.pointer (some ⟨rb, 0, none⟩)] w fun e w' => e = .returned (.int .i64 (enc k r).length) ∧ Below w.heap.size w w' := by
  have H : Hid (Calls Try.prog 33 #[.pointer (some ⟨rb, 0, none⟩)] w fun e w' => e = .returned (.int .i64 (enc k r).length) ∧ Below w.heap.size w w') := size_any k B rb pv rdb rc wrb wc r w h ok hB hk
  clear h
  go_enter Try.func24, Try.ntmps24
  go_wp2_with (go_at_call 33; refine Calls.mono H.out ?_; rintro _ w1 ⟨rfl, h1⟩)
  go_ret
  exact ⟨rfl, h1⟩

/-! ### small helpers -/
set_option maxHeartbeats 400000 in
theorem zzmin2 (a b : Nat) (w : World) : Calls Try.prog 20 #[.int .i64 a, .int .i64 b] w fun e w' => e = .returned (.int .i64 (min a b : Nat)) ∧ w = w' := by
  go_enter Try.func20, Try.ntmps20
  by_cases h : b < a
  · go_wp2
    go_ret
    exact ⟨ret_int (by omega), rfl⟩
  · go_wp2
    go_ret
    exact ⟨ret_int (by omega), rfl⟩

set_option maxHeartbeats 400000 in
theorem zzmin3 (a b c : Nat) (w : World) : Calls Try.prog 12 #[.int .i64 a, .int .i64 b, .int .i64 c] w fun e w' => e = .returned (.int .i64 (min (min a b) c : Nat)) ∧ w = w' := by
  go_enter Try.func12, Try.ntmps12
  go_wp2_with (first
    | (go_at_call 20; have _t := ‹Stage 2›; refine Calls.mono (zzmin2 (min a b) c w) ?_; rintro _ _ ⟨rfl, rfl⟩)
    | (go_at_call 20; refine Calls.mono (zzmin2 a b w) ?_; rintro _ _ ⟨rfl, rfl⟩; have st : Stage 2 := ⟨⟩))
  go_ret
  exact ⟨ret_int (by omega), rfl⟩
end Go.Proofs.Qxb6605845a.Ec
