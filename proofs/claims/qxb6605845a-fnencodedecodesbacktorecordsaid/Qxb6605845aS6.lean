import Derived.Test.Qxb6605845aS5
import Derived.Lib.VarintBits
namespace Go.Proofs.Qxb6605845a.Ec
set_option linter.unusedVariables false
set_option linter.unusedSimpArgs false
open Go.RowKit

theorem drop_head {bs rest : List UInt8} {m : Nat} {c : UInt8} (h : bs.drop m = c :: rest) : bs[m]? = some c ∧ bs.drop (m + 1) = rest ∧ m < bs.length := by
  have h1 : (bs.drop m)[0]? = some c := by rw [h]; rfl
  rw [List.getElem?_drop, Nat.add_zero] at h1
  refine ⟨h1, ?_, (List.getElem?_eq_some_iff.1 h1).1⟩
  rw [← List.drop_drop, h]
  rfl

theorem ret_triple {a b : Int} {v u : Value} (h : a = b) : Ending.returned (Value.tuple #[v, .int .i64 a, u]) = Ending.returned (Value.tuple #[v, .int .i64 b, u]) := by rw [h]

set_option maxHeartbeats 8000000 in
set_option maxRecDepth 100000 in
/-- zzUvarint at a place where x's varint begins. -/
theorem zzuvarint (x m b c : Nat) (bs post : List UInt8) (w : World) (h : BytesAt w b 0 bs) (hd0 : bs.drop m = Lib.uvarint x ++ post) (hx : x < 18446744073709551616) (hl : bs.length < 140737488355328) :
    Calls Try.prog 25 #[.slice (some ⟨b, 0, none⟩) bs.length c, .int .i64 m] w fun e w' => e = .returned (.tuple #[.int .u64 x, .int .i64 (m + (Lib.uvarint x).length : Nat), .bool true]) ∧ w = w' := by
  go_enter Try.func25, Try.ntmps25
  go_wp2
  go_loop [1, 7, 8, 9] (fun vp vx vs vi => ∃ k acc y : Nat, vi = .int .i64 k ∧ vs = .int .u64 ((7 * k : Nat) : Int) ∧ vx = .int .u64 acc ∧ vp = .int .i64 (m + k : Nat) ∧ k ≤ 9 ∧ acc + y * 2 ^ (7 * k) = x ∧ acc < 2 ^ (7 * k) ∧ (0 < k → 0 < y) ∧ bs.drop (m + k) = Lib.uvarint y ++ post ∧ (Lib.uvarint x).length = k + (Lib.uvarint y).length) (fun _ _ _ vi => 10 - (intOf vi).toNat)
  case atStart => exact ⟨0, 0, x, rfl, rfl, rfl, rfl, by omega, by simp, by decide, by omega, hd0, by omega⟩
  case round =>
    obtain ⟨k, acc, y, rfl, rfl, rfl, rfl, hk, hxs, hacc, hpos, hd, hlen⟩ := hrel
    clear hd0
    have hks : k = 0 ∨ k = 1 ∨ k = 2 ∨ k = 3 ∨ k = 4 ∨ k = 5 ∨ k = 6 ∨ k = 7 ∨ k = 8 ∨ k = 9 := by omega
    rcases hks with rfl | rfl | rfl | rfl | rfl | rfl | rfl | rfl | rfl | rfl
    · obtain rfl : acc = 0 := by simpa using hacc
      obtain rfl : y = x := by simpa using hxs
      clear hlen
      by_cases hy : y < 128
      · have hly : (Lib.uvarint y).length = 1 := by rw [Lib.uvarint_small hy]; rfl
        rw [Lib.uvarint_small hy] at hd
        obtain ⟨h1, h2, h3⟩ := drop_head hd
        have hc := h _ _ h1
        simp only [Nat.add_zero] at h3
        have ec : (y.toUInt8).toNat = y := by simp; omega
        rw [ec] at hc
        simp only [Nat.zero_add, Nat.add_zero] at hc
        have hv : bits .or .u64 0 (IntKind.u64.wrap (IntKind.u64.wrap (bits .and .u8 (y : Int) 127))) = (y : Int) := by
          simp (disch := omega) only [u8_and127, u64_wrap_id, u64_orv0]
          omega
        clear hd h h1 h2 hxs hacc
        go_wp2
        go_ret3
        exact ⟨ret_triple (by omega), rfl⟩
      · have hly : (Lib.uvarint y).length = (Lib.uvarint (y / 128)).length + 1 := by rw [Lib.uvarint_big (by omega)]; rfl
        rw [Lib.uvarint_big (by omega)] at hd
        obtain ⟨h1, h2, h3⟩ := drop_head hd
        have hc := h _ _ h1
        have ec : ((y % 128 + 128).toUInt8).toNat = y % 128 + 128 := by simp; omega
        rw [ec] at hc
        simp only [Nat.zero_add, Nat.add_zero] at hc
        have hv : bits .or .u64 0 (IntKind.u64.wrap (IntKind.u64.wrap (bits .and .u8 ((y % 128 + 128 : Nat) : Int) 127))) = ((y % 128 : Nat) : Int) := by
          simp (disch := omega) only [u8_and127, u64_wrap_id, u64_orv0]
          omega
        clear hd h h1 hxs hacc
        generalize hcc : y % 128 + 128 = cc at *
        go_wp2
        refine ⟨⟨1, y % 128, y / 128, by go_num, rfl, by go_num, by first | rfl | go_num, by omega, ?_, ?_, by omega, h2, by omega⟩, by simp [intOf]⟩
        · show y % 128 + y / 128 * 128 = y
          omega
        · show y % 128 < 128
          omega
    · have hacc' : acc < 128 := by simpa using hacc
      have hxs' : acc + y * 128 = x := by simpa using hxs
      by_cases hy : y < 128
      · have hly : (Lib.uvarint y).length = 1 := by rw [Lib.uvarint_small hy]; rfl
        rw [Lib.uvarint_small hy] at hd
        obtain ⟨h1, h2, h3⟩ := drop_head hd
        have hc := h _ _ h1
        have ec : (y.toUInt8).toNat = y := by simp; omega
        rw [ec] at hc
        simp only [Nat.zero_add, Nat.add_zero] at hc
        have hv : bits .or .u64 (acc : Int) (IntKind.u64.wrap (IntKind.u64.wrap (bits .and .u8 (y : Int) 127) * 128)) = (x : Int) := by
          simp (disch := omega) only [u8_and127, u64_wrap_id, u64_orv7]
          omega
        clear hd h h1 h2 hxs hacc
        go_wp2
        go_ret3
        exact ⟨ret_triple (by omega), rfl⟩
      · have hly : (Lib.uvarint y).length = (Lib.uvarint (y / 128)).length + 1 := by rw [Lib.uvarint_big (by omega)]; rfl
        rw [Lib.uvarint_big (by omega)] at hd
        obtain ⟨h1, h2, h3⟩ := drop_head hd
        have hc := h _ _ h1
        have ec : ((y % 128 + 128).toUInt8).toNat = y % 128 + 128 := by simp; omega
        rw [ec] at hc
        simp only [Nat.zero_add, Nat.add_zero] at hc
        have hv : bits .or .u64 (acc : Int) (IntKind.u64.wrap (IntKind.u64.wrap (bits .and .u8 ((y % 128 + 128 : Nat) : Int) 127) * 128)) = ((acc + y % 128 * 128 : Nat) : Int) := by
          simp (disch := omega) only [u8_and127, u64_wrap_id, u64_orv7]
          omega
        clear hd h h1 hxs hacc
        generalize hcc : y % 128 + 128 = cc at *
        go_wp2
        refine ⟨⟨2, acc + y % 128 * 128, y / 128, by go_num, rfl, by go_num, by first | rfl | go_num, by omega, ?_, ?_, by omega, h2, by omega⟩, by simp [intOf]⟩
        · show acc + y % 128 * 128 + y / 128 * 16384 = x
          omega
        · show acc + y % 128 * 128 < 16384
          omega
    · have hacc' : acc < 16384 := by simpa using hacc
      have hxs' : acc + y * 16384 = x := by simpa using hxs
      by_cases hy : y < 128
      · have hly : (Lib.uvarint y).length = 1 := by rw [Lib.uvarint_small hy]; rfl
        rw [Lib.uvarint_small hy] at hd
        obtain ⟨h1, h2, h3⟩ := drop_head hd
        have hc := h _ _ h1
        have ec : (y.toUInt8).toNat = y := by simp; omega
        rw [ec] at hc
        simp only [Nat.zero_add, Nat.add_zero] at hc
        have hv : bits .or .u64 (acc : Int) (IntKind.u64.wrap (IntKind.u64.wrap (bits .and .u8 (y : Int) 127) * 16384)) = (x : Int) := by
          simp (disch := omega) only [u8_and127, u64_wrap_id, u64_orv14]
          omega
        clear hd h h1 h2 hxs hacc
        go_wp2
        go_ret3
        exact ⟨ret_triple (by omega), rfl⟩
      · have hly : (Lib.uvarint y).length = (Lib.uvarint (y / 128)).length + 1 := by rw [Lib.uvarint_big (by omega)]; rfl
        rw [Lib.uvarint_big (by omega)] at hd
        obtain ⟨h1, h2, h3⟩ := drop_head hd
        have hc := h _ _ h1
        have ec : ((y % 128 + 128).toUInt8).toNat = y % 128 + 128 := by simp; omega
        rw [ec] at hc
        simp only [Nat.zero_add, Nat.add_zero] at hc
        have hv : bits .or .u64 (acc : Int) (IntKind.u64.wrap (IntKind.u64.wrap (bits .and .u8 ((y % 128 + 128 : Nat) : Int) 127) * 16384)) = ((acc + y % 128 * 16384 : Nat) : Int) := by
          simp (disch := omega) only [u8_and127, u64_wrap_id, u64_orv14]
          omega
        clear hd h h1 hxs hacc
        generalize hcc : y % 128 + 128 = cc at *
        go_wp2
        refine ⟨⟨3, acc + y % 128 * 16384, y / 128, by go_num, rfl, by go_num, by first | rfl | go_num, by omega, ?_, ?_, by omega, h2, by omega⟩, by simp [intOf]⟩
        · show acc + y % 128 * 16384 + y / 128 * 2097152 = x
          omega
        · show acc + y % 128 * 16384 < 2097152
          omega
    · have hacc' : acc < 2097152 := by simpa using hacc
      have hxs' : acc + y * 2097152 = x := by simpa using hxs
      by_cases hy : y < 128
      · have hly : (Lib.uvarint y).length = 1 := by rw [Lib.uvarint_small hy]; rfl
        rw [Lib.uvarint_small hy] at hd
        obtain ⟨h1, h2, h3⟩ := drop_head hd
        have hc := h _ _ h1
        have ec : (y.toUInt8).toNat = y := by simp; omega
        rw [ec] at hc
        simp only [Nat.zero_add, Nat.add_zero] at hc
        have hv : bits .or .u64 (acc : Int) (IntKind.u64.wrap (IntKind.u64.wrap (bits .and .u8 (y : Int) 127) * 2097152)) = (x : Int) := by
          simp (disch := omega) only [u8_and127, u64_wrap_id, u64_orv21]
          omega
        clear hd h h1 h2 hxs hacc
        go_wp2
        go_ret3
        exact ⟨ret_triple (by omega), rfl⟩
      · have hly : (Lib.uvarint y).length = (Lib.uvarint (y / 128)).length + 1 := by rw [Lib.uvarint_big (by omega)]; rfl
        rw [Lib.uvarint_big (by omega)] at hd
        obtain ⟨h1, h2, h3⟩ := drop_head hd
        have hc := h _ _ h1
        have ec : ((y % 128 + 128).toUInt8).toNat = y % 128 + 128 := by simp; omega
        rw [ec] at hc
        simp only [Nat.zero_add, Nat.add_zero] at hc
        have hv : bits .or .u64 (acc : Int) (IntKind.u64.wrap (IntKind.u64.wrap (bits .and .u8 ((y % 128 + 128 : Nat) : Int) 127) * 2097152)) = ((acc + y % 128 * 2097152 : Nat) : Int) := by
          simp (disch := omega) only [u8_and127, u64_wrap_id, u64_orv21]
          omega
        clear hd h h1 hxs hacc
        generalize hcc : y % 128 + 128 = cc at *
        go_wp2
        refine ⟨⟨4, acc + y % 128 * 2097152, y / 128, by go_num, rfl, by go_num, by first | rfl | go_num, by omega, ?_, ?_, by omega, h2, by omega⟩, by simp [intOf]⟩
        · show acc + y % 128 * 2097152 + y / 128 * 268435456 = x
          omega
        · show acc + y % 128 * 2097152 < 268435456
          omega
    · have hacc' : acc < 268435456 := by simpa using hacc
      have hxs' : acc + y * 268435456 = x := by simpa using hxs
      by_cases hy : y < 128
      · have hly : (Lib.uvarint y).length = 1 := by rw [Lib.uvarint_small hy]; rfl
        rw [Lib.uvarint_small hy] at hd
        obtain ⟨h1, h2, h3⟩ := drop_head hd
        have hc := h _ _ h1
        have ec : (y.toUInt8).toNat = y := by simp; omega
        rw [ec] at hc
        simp only [Nat.zero_add, Nat.add_zero] at hc
        have hv : bits .or .u64 (acc : Int) (IntKind.u64.wrap (IntKind.u64.wrap (bits .and .u8 (y : Int) 127) * 268435456)) = (x : Int) := by
          simp (disch := omega) only [u8_and127, u64_wrap_id, u64_orv28]
          omega
        clear hd h h1 h2 hxs hacc
        go_wp2
        go_ret3
        exact ⟨ret_triple (by omega), rfl⟩
      · have hly : (Lib.uvarint y).length = (Lib.uvarint (y / 128)).length + 1 := by rw [Lib.uvarint_big (by omega)]; rfl
        rw [Lib.uvarint_big (by omega)] at hd
        obtain ⟨h1, h2, h3⟩ := drop_head hd
        have hc := h _ _ h1
        have ec : ((y % 128 + 128).toUInt8).toNat = y % 128 + 128 := by simp; omega
        rw [ec] at hc
        simp only [Nat.zero_add, Nat.add_zero] at hc
        have hv : bits .or .u64 (acc : Int) (IntKind.u64.wrap (IntKind.u64.wrap (bits .and .u8 ((y % 128 + 128 : Nat) : Int) 127) * 268435456)) = ((acc + y % 128 * 268435456 : Nat) : Int) := by
          simp (disch := omega) only [u8_and127, u64_wrap_id, u64_orv28]
          omega
        clear hd h h1 hxs hacc
        generalize hcc : y % 128 + 128 = cc at *
        go_wp2
        refine ⟨⟨5, acc + y % 128 * 268435456, y / 128, by go_num, rfl, by go_num, by first | rfl | go_num, by omega, ?_, ?_, by omega, h2, by omega⟩, by simp [intOf]⟩
        · show acc + y % 128 * 268435456 + y / 128 * 34359738368 = x
          omega
        · show acc + y % 128 * 268435456 < 34359738368
          omega
    · have hacc' : acc < 34359738368 := by simpa using hacc
      have hxs' : acc + y * 34359738368 = x := by simpa using hxs
      by_cases hy : y < 128
      · have hly : (Lib.uvarint y).length = 1 := by rw [Lib.uvarint_small hy]; rfl
        rw [Lib.uvarint_small hy] at hd
        obtain ⟨h1, h2, h3⟩ := drop_head hd
        have hc := h _ _ h1
        have ec : (y.toUInt8).toNat = y := by simp; omega
        rw [ec] at hc
        simp only [Nat.zero_add, Nat.add_zero] at hc
        have hv : bits .or .u64 (acc : Int) (IntKind.u64.wrap (IntKind.u64.wrap (bits .and .u8 (y : Int) 127) * 34359738368)) = (x : Int) := by
          simp (disch := omega) only [u8_and127, u64_wrap_id, u64_orv35]
          omega
        clear hd h h1 h2 hxs hacc
        go_wp2
        go_ret3
        exact ⟨ret_triple (by omega), rfl⟩
      · have hly : (Lib.uvarint y).length = (Lib.uvarint (y / 128)).length + 1 := by rw [Lib.uvarint_big (by omega)]; rfl
        rw [Lib.uvarint_big (by omega)] at hd
        obtain ⟨h1, h2, h3⟩ := drop_head hd
        have hc := h _ _ h1
        have ec : ((y % 128 + 128).toUInt8).toNat = y % 128 + 128 := by simp; omega
        rw [ec] at hc
        simp only [Nat.zero_add, Nat.add_zero] at hc
        have hv : bits .or .u64 (acc : Int) (IntKind.u64.wrap (IntKind.u64.wrap (bits .and .u8 ((y % 128 + 128 : Nat) : Int) 127) * 34359738368)) = ((acc + y % 128 * 34359738368 : Nat) : Int) := by
          simp (disch := omega) only [u8_and127, u64_wrap_id, u64_orv35]
          omega
        clear hd h h1 hxs hacc
        generalize hcc : y % 128 + 128 = cc at *
        go_wp2
        refine ⟨⟨6, acc + y % 128 * 34359738368, y / 128, by go_num, rfl, by go_num, by first | rfl | go_num, by omega, ?_, ?_, by omega, h2, by omega⟩, by simp [intOf]⟩
        · show acc + y % 128 * 34359738368 + y / 128 * 4398046511104 = x
          omega
        · show acc + y % 128 * 34359738368 < 4398046511104
          omega
    · have hacc' : acc < 4398046511104 := by simpa using hacc
      have hxs' : acc + y * 4398046511104 = x := by simpa using hxs
      by_cases hy : y < 128
      · have hly : (Lib.uvarint y).length = 1 := by rw [Lib.uvarint_small hy]; rfl
        rw [Lib.uvarint_small hy] at hd
        obtain ⟨h1, h2, h3⟩ := drop_head hd
        have hc := h _ _ h1
        have ec : (y.toUInt8).toNat = y := by simp; omega
        rw [ec] at hc
        simp only [Nat.zero_add, Nat.add_zero] at hc
        have hv : bits .or .u64 (acc : Int) (IntKind.u64.wrap (IntKind.u64.wrap (bits .and .u8 (y : Int) 127) * 4398046511104)) = (x : Int) := by
          simp (disch := omega) only [u8_and127, u64_wrap_id, u64_orv42]
          omega
        clear hd h h1 h2 hxs hacc
        go_wp2
        go_ret3
        exact ⟨ret_triple (by omega), rfl⟩
      · have hly : (Lib.uvarint y).length = (Lib.uvarint (y / 128)).length + 1 := by rw [Lib.uvarint_big (by omega)]; rfl
        rw [Lib.uvarint_big (by omega)] at hd
        obtain ⟨h1, h2, h3⟩ := drop_head hd
        have hc := h _ _ h1
        have ec : ((y % 128 + 128).toUInt8).toNat = y % 128 + 128 := by simp; omega
        rw [ec] at hc
        simp only [Nat.zero_add, Nat.add_zero] at hc
        have hv : bits .or .u64 (acc : Int) (IntKind.u64.wrap (IntKind.u64.wrap (bits .and .u8 ((y % 128 + 128 : Nat) : Int) 127) * 4398046511104)) = ((acc + y % 128 * 4398046511104 : Nat) : Int) := by
          simp (disch := omega) only [u8_and127, u64_wrap_id, u64_orv42]
          omega
        clear hd h h1 hxs hacc
        generalize hcc : y % 128 + 128 = cc at *
        go_wp2
        refine ⟨⟨7, acc + y % 128 * 4398046511104, y / 128, by go_num, rfl, by go_num, by first | rfl | go_num, by omega, ?_, ?_, by omega, h2, by omega⟩, by simp [intOf]⟩
        · show acc + y % 128 * 4398046511104 + y / 128 * 562949953421312 = x
          omega
        · show acc + y % 128 * 4398046511104 < 562949953421312
          omega
    · have hacc' : acc < 562949953421312 := by simpa using hacc
      have hxs' : acc + y * 562949953421312 = x := by simpa using hxs
      by_cases hy : y < 128
      · have hly : (Lib.uvarint y).length = 1 := by rw [Lib.uvarint_small hy]; rfl
        rw [Lib.uvarint_small hy] at hd
        obtain ⟨h1, h2, h3⟩ := drop_head hd
        have hc := h _ _ h1
        have ec : (y.toUInt8).toNat = y := by simp; omega
        rw [ec] at hc
        simp only [Nat.zero_add, Nat.add_zero] at hc
        have hv : bits .or .u64 (acc : Int) (IntKind.u64.wrap (IntKind.u64.wrap (bits .and .u8 (y : Int) 127) * 562949953421312)) = (x : Int) := by
          simp (disch := omega) only [u8_and127, u64_wrap_id, u64_orv49]
          omega
        clear hd h h1 h2 hxs hacc
        go_wp2
        go_ret3
        exact ⟨ret_triple (by omega), rfl⟩
      · have hly : (Lib.uvarint y).length = (Lib.uvarint (y / 128)).length + 1 := by rw [Lib.uvarint_big (by omega)]; rfl
        rw [Lib.uvarint_big (by omega)] at hd
        obtain ⟨h1, h2, h3⟩ := drop_head hd
        have hc := h _ _ h1
        have ec : ((y % 128 + 128).toUInt8).toNat = y % 128 + 128 := by simp; omega
        rw [ec] at hc
        simp only [Nat.zero_add, Nat.add_zero] at hc
        have hv : bits .or .u64 (acc : Int) (IntKind.u64.wrap (IntKind.u64.wrap (bits .and .u8 ((y % 128 + 128 : Nat) : Int) 127) * 562949953421312)) = ((acc + y % 128 * 562949953421312 : Nat) : Int) := by
          simp (disch := omega) only [u8_and127, u64_wrap_id, u64_orv49]
          omega
        clear hd h h1 hxs hacc
        generalize hcc : y % 128 + 128 = cc at *
        go_wp2
        refine ⟨⟨8, acc + y % 128 * 562949953421312, y / 128, by go_num, rfl, by go_num, by first | rfl | go_num, by omega, ?_, ?_, by omega, h2, by omega⟩, by simp [intOf]⟩
        · show acc + y % 128 * 562949953421312 + y / 128 * 72057594037927936 = x
          omega
        · show acc + y % 128 * 562949953421312 < 72057594037927936
          omega
    · have hacc' : acc < 72057594037927936 := by simpa using hacc
      have hxs' : acc + y * 72057594037927936 = x := by simpa using hxs
      by_cases hy : y < 128
      · have hly : (Lib.uvarint y).length = 1 := by rw [Lib.uvarint_small hy]; rfl
        rw [Lib.uvarint_small hy] at hd
        obtain ⟨h1, h2, h3⟩ := drop_head hd
        have hc := h _ _ h1
        have ec : (y.toUInt8).toNat = y := by simp; omega
        rw [ec] at hc
        simp only [Nat.zero_add, Nat.add_zero] at hc
        have hv : bits .or .u64 (acc : Int) (IntKind.u64.wrap (IntKind.u64.wrap (bits .and .u8 (y : Int) 127) * 72057594037927936)) = (x : Int) := by
          simp (disch := omega) only [u8_and127, u64_wrap_id, u64_orv56]
          omega
        clear hd h h1 h2 hxs hacc
        go_wp2
        go_ret3
        exact ⟨ret_triple (by omega), rfl⟩
      · have hly : (Lib.uvarint y).length = (Lib.uvarint (y / 128)).length + 1 := by rw [Lib.uvarint_big (by omega)]; rfl
        rw [Lib.uvarint_big (by omega)] at hd
        obtain ⟨h1, h2, h3⟩ := drop_head hd
        have hc := h _ _ h1
        have ec : ((y % 128 + 128).toUInt8).toNat = y % 128 + 128 := by simp; omega
        rw [ec] at hc
        simp only [Nat.zero_add, Nat.add_zero] at hc
        have hv : bits .or .u64 (acc : Int) (IntKind.u64.wrap (IntKind.u64.wrap (bits .and .u8 ((y % 128 + 128 : Nat) : Int) 127) * 72057594037927936)) = ((acc + y % 128 * 72057594037927936 : Nat) : Int) := by
          simp (disch := omega) only [u8_and127, u64_wrap_id, u64_orv56]
          omega
        clear hd h h1 hxs hacc
        generalize hcc : y % 128 + 128 = cc at *
        go_wp2
        refine ⟨⟨9, acc + y % 128 * 72057594037927936, y / 128, by go_num, rfl, by go_num, by first | rfl | go_num, by omega, ?_, ?_, by omega, h2, by omega⟩, by simp [intOf]⟩
        · show acc + y % 128 * 72057594037927936 + y / 128 * 9223372036854775808 = x
          omega
        · show acc + y % 128 * 72057594037927936 < 9223372036854775808
          omega
    · have hacc' : acc < 9223372036854775808 := by simpa using hacc
      have hxs' : acc + y * 9223372036854775808 = x := by simpa using hxs
      by_cases hy : y < 128
      · have hly : (Lib.uvarint y).length = 1 := by rw [Lib.uvarint_small hy]; rfl
        rw [Lib.uvarint_small hy] at hd
        obtain ⟨h1, h2, h3⟩ := drop_head hd
        have hc := h _ _ h1
        have ec : (y.toUInt8).toNat = y := by simp; omega
        rw [ec] at hc
        simp only [Nat.zero_add, Nat.add_zero] at hc
        have hv : bits .or .u64 (acc : Int) (IntKind.u64.wrap (IntKind.u64.wrap (bits .and .u8 (y : Int) 127) * 9223372036854775808)) = (x : Int) := by
          simp (disch := omega) only [u8_and127, u64_wrap_id, u64_orv63]
          omega
        clear hd h h1 h2 hxs hacc
        go_wp2
        go_ret3
        exact ⟨ret_triple (by omega), rfl⟩
      · omega
end Go.Proofs.Qxb6605845a.Ec
