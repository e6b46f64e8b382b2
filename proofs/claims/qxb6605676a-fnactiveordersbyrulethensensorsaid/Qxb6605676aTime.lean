import Derived.Test.Qxb6605676aProg
import Derived.WalkKit
import Derived.WalkSpells
import Derived.WalkLawsBesides
import Derived.Deep.RegionWith
import Derived.Deep.QuietTactic
import Derived.BigQuiet
namespace Go.Proofs.Qxb6605676a.Tm
set_option linter.unusedVariables false
set_option linter.unusedSimpArgs false
open Go.RowKit

/-- The constant 10^9, behind a name. -/
def G : Int := 1000000000
/-- The mark of a monotonic reading, 2^63. -/
def M63 : Int := 9223372036854775808

theorem and_mask (n : Int) (h0 : 0 ≤ n) (h1 : n < 1000000000) : bits .and .u64 n 1073741823 = n := by
  rw [u64_and n 1073741823 h0 (by omega) (by omega) (by omega)]
  have e : n.toNat &&& (1073741823 : Int).toNat = n.toNat := by
    show n.toNat &&& (2 ^ 30 - 1) = n.toNat
    rw [Nat.and_two_pow_sub_one_eq_mod, Nat.mod_eq_of_lt (by omega)]
  rw [e]; omega

theorem and_mono (n : Int) (h0 : 0 ≤ n) (h1 : n < 1000000000) : bits .and .u64 n 9223372036854775808 = 0 := by
  rw [u64_and n 9223372036854775808 h0 (by omega) (by omega) (by omega)]
  have e : n.toNat &&& (9223372036854775808 : Int).toNat = 0 := by
    show n.toNat &&& (2 ^ 63) = 0
    apply Nat.eq_of_testBit_eq
    intro i
    rw [Nat.testBit_and, Nat.zero_testBit, Nat.testBit_two_pow]
    by_cases hi : 63 = i
    · subst hi
      rw [Nat.testBit_lt_two_pow (show n.toNat < 2 ^ 63 by omega)]; rfl
    · simp [hi]
  rw [e]; rfl

theorem clear_mask (n : Int) (h0 : 0 ≤ n) (h1 : n < 1000000000) : bits .andNot .u64 n 1073741823 = 0 := by
  rw [u64_andNot n 1073741823 h0 (by omega) (by omega) (by omega)]
  have e : n.toNat &&& (18446744073709551615 - (1073741823 : Int).toNat) = 0 := by
    apply Nat.eq_of_testBit_eq
    intro i
    rw [Nat.testBit_and, Nat.zero_testBit]
    by_cases hi : i < 30
    · have : Nat.testBit (18446744073709551615 - (1073741823 : Int).toNat) i = false := by
        show Nat.testBit 18446744072635809792 i = false
        have hd : 18446744072635809792 = 2 ^ 30 * 17179869183 := by decide
        rw [hd, Nat.testBit_two_pow_mul]
        simp; omega
      rw [this]; simp
    · have : n.toNat.testBit i = false := Nat.testBit_lt_two_pow (Nat.lt_of_lt_of_le (show n.toNat < 2 ^ 30 by omega) (Nat.pow_le_pow_right (by omega) (by omega)))
      rw [this]; simp
  rw [e]; rfl

theorem or_zero (n : Int) (h0 : 0 ≤ n) (h1 : n < 1000000000) : bits .or .u64 0 n = n := by
  rw [u64_or 0 n (by omega) (by omega) h0 (by omega)]
  have e : (0 : Int).toNat ||| n.toNat = n.toNat := by simp
  rw [e]; omega

set_option maxHeartbeats 400000 in
theorem nsec_any (b o : Nat) (n : Int) (w : World) (h0 : 0 ≤ n) (h1 : n < 1000000000) (hc : w.cell? ⟨b, o, none⟩ = some (.int .u64 n)) :
    Calls Try.prog 86 #[.pointer (some ⟨b, o, none⟩)] w fun e w' => e = .returned (.int .i32 n) ∧ w' = w := by
  have ha := and_mask n h0 h1
  go_enter Try.func86, Try.ntmps86
  go_wp2
  go_ret
  exact ⟨rfl, rfl⟩

set_option maxHeartbeats 400000 in
theorem sec_any (b o : Nat) (n s : Int) (w : World) (h0 : 0 ≤ n) (h1 : n < 1000000000) (hc : w.cell? ⟨b, o, none⟩ = some (.int .u64 n)) (hc1 : w.cell? ⟨b, o + 1, none⟩ = some (.int .i64 s)) :
    Calls Try.prog 85 #[.pointer (some ⟨b, o, none⟩)] w fun e w' => e = .returned (.int .i64 s) ∧ w' = w := by
  have ha := and_mono n h0 h1
  go_enter Try.func85, Try.ntmps85
  go_wp2
  go_ret
  exact ⟨rfl, rfl⟩

set_option maxHeartbeats 400000 in
theorem addSec_any (b o : Nat) (n s d : Int) (w : World) (h0 : 0 ≤ n) (h1 : n < 1000000000) (hs : -1000000000000 ≤ s) (hs' : s ≤ 1000000000000) (hd : -1000000000000 ≤ d) (hd' : d ≤ 1000000000000)
    (hc : w.cell? ⟨b, o, none⟩ = some (.int .u64 n)) (hc1 : w.cell? ⟨b, o + 1, none⟩ = some (.int .i64 s)) (hf : w.frozen? ⟨b, o + 1, none⟩ = false) :
    Calls Try.prog 89 #[.pointer (some ⟨b, o, none⟩), .int .i64 d] w fun e w' => e = .returned (.tuple #[]) ∧ w' = w.setCell ⟨b, o + 1, none⟩ (.int .i64 (s + d)) := by
  have ha := and_mono n h0 h1
  by_cases hp : 0 < d
  · have hq : s < s + d := by omega
    go_enter Try.func89, Try.ntmps89
    go_wp2
    go_end0
    exact ⟨rfl, rfl⟩
  · have hq : ¬ s < s + d := by omega
    go_enter Try.func89, Try.ntmps89
    go_wp2
    go_end0
    exact ⟨rfl, rfl⟩

def tv (s n : Int) : Value := .agg #[.int .u64 n, .int .i64 s, .pointer none]

set_option maxHeartbeats 1000000 in
theorem add_mid (n s d : Int) (w : World) (h0 : 0 ≤ n) (h1 : n < 1000000000) (hs : -1000000000000 ≤ s) (hs' : s ≤ 1000000000000) (hd : -9223372036854775808 ≤ d) (hd' : d ≤ 9223372036854775807)
    (h2 : 0 ≤ n + d.tmod 1000000000) (h3 : n + d.tmod 1000000000 < 1000000000) :
    Calls Try.prog 78 #[tv s n, .int .i64 d] w fun e w' => e = .returned (tv (s + (d.tdiv 1000000000)) (n + d.tmod 1000000000)) ∧ Below w.heap.size w w' := by
  unfold tv
  have q0 := Int.mul_tdiv_add_tmod d 1000000000
  have q1 : -1000000000 < d.tmod 1000000000 := Int.lt_tmod_of_pos d (by omega)
  have q2 : d.tmod 1000000000 < 1000000000 := Int.tmod_lt_of_pos d (by omega)
  have q3 : -10000000000 < d.tdiv 1000000000 := by omega
  have q4 : d.tdiv 1000000000 < 10000000000 := by omega
  clear q0
  have e2 : 0 ≤ n + d.tmod 1000000000 := by omega
  have e3 : n + d.tmod 1000000000 < 1000000000 := by omega
  have ha := and_mono (n + d.tmod 1000000000) e2 e3
  have hb := clear_mask n h0 h1
  have hc := or_zero (n + d.tmod 1000000000) e2 e3
  go_enter Try.func78, Try.ntmps78
  go_wp2_with (first | (go_at_call 86; refine (nsec_any _ _ n _ h0 h1 ?_).mono ?_; go_simp; rintro e w' ⟨rfl, rfl⟩) | (go_at_call 89; refine (addSec_any _ _ (n + d.tmod 1000000000) s (d.tdiv 1000000000) _ e2 e3 hs hs' (by omega) (by omega) ?_ ?_ ?_).mono ?_; go_simp; go_simp; go_simp;  rintro e w' ⟨rfl, rfl⟩))
  exact bodyPost_ret (v := .agg #[.int .u64 (n + d.tmod 1000000000), .int .i64 (s + (d.tdiv 1000000000)), .pointer none]) (by simp [results, Try.results78, go_sem]) rfl ⟨rfl, (((Below.refl _ _).alloc (Nat.le_refl _) _).alloc (by simp) _)⟩

set_option maxHeartbeats 1000000 in
theorem add_hi (n s d : Int) (w : World) (h0 : 0 ≤ n) (h1 : n < 1000000000) (hs : -1000000000000 ≤ s) (hs' : s ≤ 1000000000000) (hd : -9223372036854775808 ≤ d) (hd' : d ≤ 9223372036854775807)
    (h3 : 1000000000 ≤ n + d.tmod 1000000000) :
    Calls Try.prog 78 #[tv s n, .int .i64 d] w fun e w' => e = .returned (tv (s + (d.tdiv 1000000000 + 1)) (n + d.tmod 1000000000 - 1000000000)) ∧ Below w.heap.size w w' := by
  unfold tv
  have q0 := Int.mul_tdiv_add_tmod d 1000000000
  have q1 : -1000000000 < d.tmod 1000000000 := Int.lt_tmod_of_pos d (by omega)
  have q2 : d.tmod 1000000000 < 1000000000 := Int.tmod_lt_of_pos d (by omega)
  have q3 : -10000000000 < d.tdiv 1000000000 := by omega
  have q4 : d.tdiv 1000000000 < 10000000000 := by omega
  clear q0
  have e2 : 0 ≤ n + d.tmod 1000000000 - 1000000000 := by omega
  have e3 : n + d.tmod 1000000000 - 1000000000 < 1000000000 := by omega
  have ha := and_mono (n + d.tmod 1000000000 - 1000000000) e2 e3
  have hb := clear_mask n h0 h1
  have hc := or_zero (n + d.tmod 1000000000 - 1000000000) e2 e3
  go_enter Try.func78, Try.ntmps78
  go_wp2_with (first | (go_at_call 86; refine (nsec_any _ _ n _ h0 h1 ?_).mono ?_; go_simp; rintro e w' ⟨rfl, rfl⟩) | (go_at_call 89; refine (addSec_any _ _ (n + d.tmod 1000000000 - 1000000000) s (d.tdiv 1000000000 + 1) _ e2 e3 hs hs' (by omega) (by omega) ?_ ?_ ?_).mono ?_; go_simp; go_simp; go_simp;  rintro e w' ⟨rfl, rfl⟩))
  exact bodyPost_ret (v := .agg #[.int .u64 (n + d.tmod 1000000000 - 1000000000), .int .i64 (s + (d.tdiv 1000000000 + 1)), .pointer none]) (by simp [results, Try.results78, go_sem]) rfl ⟨rfl, (((Below.refl _ _).alloc (Nat.le_refl _) _).alloc (by simp) _)⟩

set_option maxHeartbeats 1000000 in
theorem add_lo (n s d : Int) (w : World) (h0 : 0 ≤ n) (h1 : n < 1000000000) (hs : -1000000000000 ≤ s) (hs' : s ≤ 1000000000000) (hd : -9223372036854775808 ≤ d) (hd' : d ≤ 9223372036854775807)
    (h2 : n + d.tmod 1000000000 < 0) :
    Calls Try.prog 78 #[tv s n, .int .i64 d] w fun e w' => e = .returned (tv (s + (d.tdiv 1000000000 - 1)) (n + d.tmod 1000000000 + 1000000000)) ∧ Below w.heap.size w w' := by
  unfold tv
  have q0 := Int.mul_tdiv_add_tmod d 1000000000
  have q1 : -1000000000 < d.tmod 1000000000 := Int.lt_tmod_of_pos d (by omega)
  have q2 : d.tmod 1000000000 < 1000000000 := Int.tmod_lt_of_pos d (by omega)
  have q3 : -10000000000 < d.tdiv 1000000000 := by omega
  have q4 : d.tdiv 1000000000 < 10000000000 := by omega
  clear q0
  have e2 : 0 ≤ n + d.tmod 1000000000 + 1000000000 := by omega
  have e3 : n + d.tmod 1000000000 + 1000000000 < 1000000000 := by omega
  have ha := and_mono (n + d.tmod 1000000000 + 1000000000) e2 e3
  have hb := clear_mask n h0 h1
  have hc := or_zero (n + d.tmod 1000000000 + 1000000000) e2 e3
  go_enter Try.func78, Try.ntmps78
  go_wp2_with (first | (go_at_call 86; refine (nsec_any _ _ n _ h0 h1 ?_).mono ?_; go_simp; rintro e w' ⟨rfl, rfl⟩) | (go_at_call 89; refine (addSec_any _ _ (n + d.tmod 1000000000 + 1000000000) s (d.tdiv 1000000000 - 1) _ e2 e3 hs hs' (by omega) (by omega) ?_ ?_ ?_).mono ?_; go_simp; go_simp; go_simp;  rintro e w' ⟨rfl, rfl⟩))
  exact bodyPost_ret (v := .agg #[.int .u64 (n + d.tmod 1000000000 + 1000000000), .int .i64 (s + (d.tdiv 1000000000 - 1)), .pointer none]) (by simp [results, Try.results78, go_sem]) rfl ⟨rfl, (((Below.refl _ _).alloc (Nat.le_refl _) _).alloc (by simp) _)⟩

/-- The time x nanoseconds behind Go's zero time, as a value. -/
def T (x : Int) : Value := tv (x / 1000000000) (x % 1000000000)

theorem T_of (x s n : Int) (h0 : 0 ≤ n) (h1 : n < 1000000000) (h : s * 1000000000 + n = x) : Ending.returned (tv s n) = Ending.returned (T x) := by
  have e1 : x / 1000000000 = s := by omega
  have e2 : x % 1000000000 = n := by omega
  unfold T; rw [e1, e2]

theorem tm_facts (d : Int) : 1000000000 * d.tdiv 1000000000 + d.tmod 1000000000 = d ∧ -1000000000 < d.tmod 1000000000 ∧ d.tmod 1000000000 < 1000000000 :=
  ⟨Int.mul_tdiv_add_tmod d 1000000000, Int.lt_tmod_of_pos d (by omega), Int.tmod_lt_of_pos d (by omega)⟩

theorem add_any (x d : Int) (w : World) (hx : -100000000000000000000 ≤ x) (hx' : x ≤ 100000000000000000000) (hd : -9223372036854775808 ≤ d) (hd' : d ≤ 9223372036854775807) :
    Calls Try.prog 78 #[T x, .int .i64 d] w fun e w' => e = .returned (T (x + d)) ∧ Below w.heap.size w w' := by
  have f := tm_facts d
  rw [show T x = tv (x / 1000000000) (x % 1000000000) from rfl]
  have p0 : 0 ≤ x % 1000000000 := by omega
  have p1 : x % 1000000000 < 1000000000 := by omega
  have p2 : -1000000000000 ≤ x / 1000000000 := by omega
  have p3 : x / 1000000000 ≤ 1000000000000 := by omega
  have p4 : x / 1000000000 * 1000000000 + x % 1000000000 = x := by omega
  generalize x / 1000000000 = s at *
  generalize x % 1000000000 = n at *
  by_cases h : 1000000000 ≤ n + d.tmod 1000000000
  · refine (add_hi n s d w p0 p1 p2 p3 hd hd' h).mono ?_
    rintro e w' ⟨rfl, hb⟩
    exact ⟨T_of (x + d) _ _ (by omega) (by omega) (by omega), hb⟩
  · by_cases h' : n + d.tmod 1000000000 < 0
    · refine (add_lo n s d w p0 p1 p2 p3 hd hd' h').mono ?_
      rintro e w' ⟨rfl, hb⟩
      exact ⟨T_of (x + d) _ _ (by omega) (by omega) (by omega), hb⟩
    · refine (add_mid n s d w p0 p1 p2 p3 hd hd' (by omega) (by omega)).mono ?_
      rintro e w' ⟨rfl, hb⟩
      exact ⟨T_of (x + d) _ _ (by omega) (by omega) (by omega), hb⟩

theorem and_le (n m : Int) (h0 : 0 ≤ n) (h1 : n < 1000000000) (g0 : 0 ≤ m) (g1 : m < 1000000000) : 0 ≤ bits .and .u64 n m ∧ bits .and .u64 n m < 1000000000 := by
  rw [u64_and n m h0 (by omega) g0 (by omega)]
  have := Nat.and_le_left (n := n.toNat) (m := m.toNat)
  omega

theorem and_mono2 (n m : Int) (h0 : 0 ≤ n) (h1 : n < 1000000000) (g0 : 0 ≤ m) (g1 : m < 1000000000) : bits .and .u64 (bits .and .u64 n m) 9223372036854775808 = 0 :=
  and_mono _ (and_le n m h0 h1 g0 g1).1 (and_le n m h0 h1 g0 g1).2

end Go.Proofs.Qxb6605676a.Tm
