import Derived.Test.Qxb6605845aS15
namespace Go.Proofs.Qxb6605845a.Ec
set_option linter.unusedVariables false
set_option linter.unusedSimpArgs false
open Go.RowKit

/-! ### the arguments in memory -/
def SArg (w : World) (ao : Option Addr) (L : List ByteArray) : Prop := L = [] ∨ ∃ b o, ao = some ⟨b, o, none⟩ ∧ StrsAt w b o L
def IArg (w : World) (ao : Option Addr) (L : List Int) : Prop := L = [] ∨ ∃ b o, ao = some ⟨b, o, none⟩ ∧ IntsAt w b o L
inductive BArg (w : World) : Value → Option (List UInt8) → Prop
  | nil : BArg w (.slice none 0 0) none
  | emp (a : Addr) (c : Nat) : BArg w (.slice (some a) 0 c) (some [])
  | row (b o : Nat) (l : List UInt8) (c : Nat) (h : BytesAt w b o l) : BArg w (.slice (some ⟨b, o, none⟩) l.length c) (some l)
def ValsAt (w : World) (b o : Nat) (L : List (Option (List UInt8))) : Prop := ∀ j x, L[j]? = some x → ∃ v, w.cell? ⟨b, o + j, none⟩ = some v ∧ BArg w v x
def VArg (w : World) (ao : Option Addr) (L : List (Option (List UInt8))) : Prop := L = [] ∨ ∃ b o, ao = some ⟨b, o, none⟩ ∧ ValsAt w b o L

def bsz : Option (List UInt8) → Nat
  | none => 0
  | some l => l.length
theorem BArg.form {w : World} {v : Value} {x : Option (List UInt8)} (h : BArg w v x) : ∃ a c, v = .slice a (bsz x) c := by
  cases h with
  | nil => exact ⟨none, 0, rfl⟩
  | emp a c => exact ⟨some a, c, rfl⟩
  | row b o l c h => exact ⟨_, c, rfl⟩

def sz {α} (f : α → Nat) (L : List α) : Nat := (L.map f).sum
theorem sz_succ {α} (f : α → Nat) (L : List α) (k : Nat) (h : k < L.length) : sz f (L.take (k + 1)) = sz f (L.take k) + f L[k] := by
  unfold sz
  rw [List.take_succ_eq_append_getElem h, List.map_append, List.sum_append]; simp
theorem sz_all {α} (f : α → Nat) (L : List α) (k : Nat) (h : L.length ≤ k) : sz f (L.take k) = sz f L := by rw [List.take_of_length_le h]
theorem sz_zero {α} (f : α → Nat) (L : List α) : sz f (L.take 0) = 0 := by simp [sz]

set_option maxHeartbeats 800000 in
/-- zzStringsBytes: where it is at most 2^20 it tells the true number of bytes. -/
theorem zzstringsBytes (L : List ByteArray) (ao : Option Addr) (c : Nat) (w : World) (h : SArg w ao L) (hL : L.length < 2 ^ 63) :
    Calls Try.prog 8 #[.slice ao L.length c] w fun e w' => ∃ n : Nat, e = .returned (.int .i64 n) ∧ n ≤ 33554432 ∧ (n ≤ 1048576 → n = 16 * L.length + sz ByteArray.size L) ∧ w = w' := by
  go_enter Try.func8, Try.ntmps8
  by_cases hbig : 1048576 < L.length
  · go_wp2
    go_ret
    exact ⟨1048577, rfl, by omega, by omega, rfl⟩
  · go_wp2
    go_loop [3, 4] (fun n x => ∃ k m : Nat, k ≤ L.length ∧ x = .int .i64 k ∧ n = .int .i64 m ∧ m = 16 * L.length + sz ByteArray.size (L.take k) ∧ m ≤ 17825792) (fun _ x => L.length - (intOf x).toNat)
    case atStart => exact ⟨0, 16 * L.length, Nat.zero_le _, rfl, by go_num, by rw [sz_zero]; omega, by omega⟩
    case round =>
      obtain ⟨k, m, hk, rfl, rfl, hm, hm2⟩ := hrel
      by_cases hkl : k < L.length
      · rcases h with rfl | ⟨b, o, rfl, h⟩
        · simp at hkl
        have c0 := h k L[k] (by simp [hkl])
        have hs := sz_succ ByteArray.size L k hkl
        generalize L[k] = s at *
        by_cases h1 : 1048576 < m
        · clear hm
          go_wp2
          go_ret
          exact ⟨1048577, rfl, by omega, by omega, rfl⟩
        · by_cases h2 : 1048576 < s.size
          · clear hm
            go_wp2
            go_ret
            exact ⟨1048577, rfl, by omega, by omega, rfl⟩
          · have HM : Hid (m = 16 * L.length + sz ByteArray.size (L.take k)) := hm
            clear hm
            go_wp2
            refine ⟨⟨k + 1, m + s.size, by omega, by go_num, by go_num, ?_, by omega⟩, by simp [intOf]; omega⟩
            have := HM.out
            omega
      · rw [sz_all ByteArray.size L k (by omega)] at hm
        have HM : Hid (m = 16 * L.length + sz ByteArray.size L) := hm
        clear hm
        go_wp2
        go_ret
        exact ⟨m, rfl, by omega, fun _ => HM.out, rfl⟩

set_option maxHeartbeats 800000 in
theorem zzbytesBytes (L : List (Option (List UInt8))) (ao : Option Addr) (c : Nat) (w : World) (h : VArg w ao L) (hL : L.length < 2 ^ 63) :
    Calls Try.prog 9 #[.slice ao L.length c] w fun e w' => ∃ n : Nat, e = .returned (.int .i64 n) ∧ n ≤ 33554432 ∧ (n ≤ 1048576 → n = 24 * L.length + sz bsz L) ∧ w = w' := by
  go_enter Try.func9, Try.ntmps9
  by_cases hbig : 1048576 < L.length
  · go_wp2
    go_ret
    exact ⟨1048577, rfl, by omega, by omega, rfl⟩
  · go_wp2
    go_loop [3, 4] (fun n x => ∃ k m : Nat, k ≤ L.length ∧ x = .int .i64 k ∧ n = .int .i64 m ∧ m = 24 * L.length + sz bsz (L.take k) ∧ m ≤ 27000000) (fun _ x => L.length - (intOf x).toNat)
    case atStart => exact ⟨0, 24 * L.length, Nat.zero_le _, rfl, by go_num, by rw [sz_zero]; omega, by omega⟩
    case round =>
      obtain ⟨k, m, hk, rfl, rfl, hm, hm2⟩ := hrel
      by_cases hkl : k < L.length
      · rcases h with rfl | ⟨b, o, rfl, h⟩
        · simp at hkl
        obtain ⟨v, c0, hv⟩ := h k L[k] (by simp [hkl])
        have hs := sz_succ bsz L k hkl
        obtain ⟨va, vc, rfl⟩ := hv.form
        clear hv h
        generalize bsz L[k] = s at *
        by_cases h1 : 1048576 < m
        · clear hm
          go_wp2
          go_ret
          exact ⟨1048577, rfl, by omega, by omega, rfl⟩
        · by_cases h2 : 1048576 < s
          · clear hm
            go_wp2
            go_ret
            exact ⟨1048577, rfl, by omega, by omega, rfl⟩
          · have HM : Hid (m = 24 * L.length + sz bsz (L.take k)) := hm
            clear hm
            go_wp2
            refine ⟨⟨k + 1, m + s, by omega, by go_num, by go_num, ?_, by omega⟩, by simp [intOf]; omega⟩
            have := HM.out
            omega
      · rw [sz_all bsz L k (by omega)] at hm
        have HM : Hid (m = 24 * L.length + sz bsz L) := hm
        clear hm
        go_wp2
        go_ret
        exact ⟨m, rfl, by omega, fun _ => HM.out, rfl⟩
end Go.Proofs.Qxb6605845a.Ec
