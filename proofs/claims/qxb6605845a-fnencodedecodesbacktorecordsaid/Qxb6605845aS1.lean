import Derived.Test.Qxb6605845aS0
import Derived.WalkKit
import Derived.WalkSpells
import Derived.WalkLawsBesides
import Derived.BigQuiet
import Derived.Lib.Strings
import Derived.Lib.Slices
import Derived.Lib.Small
import Derived.Lib.Walk
import Derived.Lib.BitFns
import Derived.Lib.VarintMem
import Derived.Lib.AppendStr
namespace Go.Proofs.Qxb6605845a.Ec
set_option linter.unusedVariables false
set_option linter.unusedSimpArgs false
open Go.RowKit

theorem ret_int {a b : Int} (h : a = b) : Ending.returned (Value.int .i64 a) = Ending.returned (Value.int .i64 b) := by rw [h]

/-! ### the plain law: how many bytes a varint has -/
theorem bitAux_add (f g : Nat) : ∀ x, x < 2 ^ f → Lib.bitLenAux (f + g) x = Lib.bitLenAux f x := by
  induction f with
  | zero => intro x hx; have : x = 0 := by simpa using hx
            subst this; cases g <;> simp [Lib.bitLenAux]
  | succ f ih =>
    intro x hx
    rw [show f + 1 + g = (f + g) + 1 by omega]
    simp only [Lib.bitLenAux]
    rw [ih (x / 2) (by rw [Nat.pow_succ] at hx; omega)]

theorem bitLen_half {x : Nat} (h0 : x ≠ 0) (hx : x < 2 ^ 64) : Lib.bitLen x = 1 + Lib.bitLen (x / 2) := by
  have h := bitAux_add 63 1 (x / 2) (by omega)
  show Lib.bitLenAux (63 + 1) x = 1 + Lib.bitLenAux (63 + 1) (x / 2)
  rw [h]
  show (if x = 0 then 0 else 1 + Lib.bitLenAux 63 (x / 2)) = 1 + Lib.bitLenAux 63 (x / 2)
  rw [if_neg h0]

theorem or1_half (x : Nat) : (x ||| 1) / 2 = x / 2 := by
  have h : ∀ y : Nat, y / 2 = y >>> 1 := fun y => rfl
  rw [h, h, Nat.shiftRight_or_distrib]
  simp

theorem or1_lt {x : Nat} (hx : x < 2 ^ 64) : (x ||| 1) < 2 ^ 64 := Nat.or_lt_two_pow hx (by decide)

theorem or1_pos (x : Nat) : (x ||| 1) ≠ 0 := by
  intro h
  have := (Nat.or_eq_zero_iff.1 h).2
  omega

theorem uvarint_len_half : ∀ (n x : Nat), x ≤ n → x < 2 ^ 64 → (Lib.uvarint x).length = (1 + Lib.bitLen (x / 2) + 6) / 7 := by
  intro n
  induction n with
  | zero =>
    intro x hx _
    have : x = 0 := by omega
    subst this
    rw [Lib.uvarint_small (by decide)]
    decide
  | succ n ih =>
    intro x hx h64
    by_cases h : x < 128
    · rw [Lib.uvarint_small h]
      have hb : Lib.bitLen (x / 2) ≤ 6 := by
        have hd : ∀ y : Fin 64, Lib.bitLen y.val ≤ 6 := by decide +kernel
        exact hd ⟨x / 2, by omega⟩
      simp
      omega
    · rw [Lib.uvarint_big (by omega), List.length_cons, ih (x / 128) (by omega) (by omega)]
      have e1 := bitLen_half (x := x / 2) (by omega) (by omega)
      have e2 := bitLen_half (x := x / 2 / 2) (by omega) (by omega)
      have e3 := bitLen_half (x := x / 2 / 2 / 2) (by omega) (by omega)
      have e4 := bitLen_half (x := x / 2 / 2 / 2 / 2) (by omega) (by omega)
      have e5 := bitLen_half (x := x / 2 / 2 / 2 / 2 / 2) (by omega) (by omega)
      have e6 := bitLen_half (x := x / 2 / 2 / 2 / 2 / 2 / 2) (by omega) (by omega)
      have e7 := bitLen_half (x := x / 2 / 2 / 2 / 2 / 2 / 2 / 2) (by omega) (by omega)
      have e8 : x / 2 / 2 / 2 / 2 / 2 / 2 / 2 / 2 = x / 128 / 2 := by omega
      rw [e8] at e7
      omega

theorem uvarint_len {x : Nat} (hx : x < 2 ^ 64) : (Lib.uvarint x).length = (Lib.bitLen (x ||| 1) + 6) / 7 := by
  rw [uvarint_len_half x x (Nat.le_refl _) hx, bitLen_half (or1_pos x) (or1_lt hx), or1_half]

theorem or1_bits {x : Nat} (hx : x < 2 ^ 64) : bits .or .u64 (x : Int) 1 = ((x ||| 1 : Nat) : Int) := by
  have h := (bits_nat .u64 64 (by decide) (fun n h₀ h₁ => by rw [IntKind.wrap_u64]; omega) x 1 (by simpa using hx) (by decide)).2
  exact h

set_option maxHeartbeats 400000 in
/-- UvarintSize: the varint's length. -/
theorem uvarintSize (x : Nat) (w : World) (hx : x < 2 ^ 64) :
    Calls Try.prog 43 #[.int .u64 x] w fun e w' => e = .returned (.int .i64 (Lib.uvarint x).length) ∧ w = w' := by
  have h1 := or1_bits hx
  have h2 := or1_lt hx
  have h3 := uvarint_len hx
  have hl : Lib.bitLen (x ||| 1) ≤ 70 := by
    have h10 := Lib.uvarint_length64 (x := x) (by omega)
    omega
  go_enter Try.func43, Try.ntmps43
  go_wp2_with (go_at_call 51; refine (len64 ((x ||| 1 : Nat) : Int) w (by omega) (by omega)).mono ?_; rintro _ _ ⟨rfl, rfl⟩)
  go_ret
  exact ⟨ret_int (by rw [h3]; omega), rfl⟩
end Go.Proofs.Qxb6605845a.Ec
