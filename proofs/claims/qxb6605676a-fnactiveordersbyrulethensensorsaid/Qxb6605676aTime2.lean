import Derived.Test.Qxb6605676aTime
namespace Go.Proofs.Qxb6605676a.Tm
set_option linter.unusedVariables false
set_option linter.unusedSimpArgs false
open Go.RowKit

theorem ret_bool {a b : Bool} (h : a = b) : Ending.returned (.bool a) = .returned (.bool b) := by rw [h]
theorem ret_int {k : IntKind} {a b : Int} (h : a = b) : Ending.returned (.int k a) = .returned (.int k b) := by rw [h]

set_option maxHeartbeats 1000000 in
theorem equal_parts (n s m r : Int) (w : World) (h0 : 0 ≤ n) (h1 : n < 1000000000) (g0 : 0 ≤ m) (g1 : m < 1000000000) :
    Calls Try.prog 87 #[tv s n, tv r m] w fun e w' => e = .returned (.bool (s == r && n == m)) ∧ Below w.heap.size w w' := by
  unfold tv
  have ha := and_mono2 n m h0 h1 g0 g1
  by_cases hsr : (s == r) = true
  all_goals
    go_enter Try.func87, Try.ntmps87
    go_wp2_with (first | (go_at_call_of 86 (Value.pointer (some ⟨w.heap.size, 0, none⟩)); refine (nsec_any _ _ n _ h0 h1 ?_).mono ?_; go_simp; rintro e w' ⟨rfl, rfl⟩) | (go_at_call 86; refine (nsec_any _ _ m _ g0 g1 ?_).mono ?_; go_simp; rintro e w' ⟨rfl, rfl⟩) | (go_at_call_of 85 (Value.pointer (some ⟨w.heap.size, 0, none⟩)); refine (sec_any _ _ n s _ h0 h1 ?_ ?_).mono ?_; go_simp; go_simp; rintro e w' ⟨rfl, rfl⟩) | (go_at_call 85; refine (sec_any _ _ m r _ g0 g1 ?_ ?_).mono ?_; go_simp; go_simp; rintro e w' ⟨rfl, rfl⟩))
    go_ret
    exact ⟨ret_bool (by simp [hsr]), (((Below.refl _ _).alloc (Nat.le_refl _) _).alloc (by simp) _)⟩

theorem equal_any (x y : Int) (w : World) :
    Calls Try.prog 87 #[T x, T y] w fun e w' => e = .returned (.bool (decide (x = y))) ∧ Below w.heap.size w w' := by
  rw [show T x = tv (x / 1000000000) (x % 1000000000) from rfl, show T y = tv (y / 1000000000) (y % 1000000000) from rfl]
  refine (equal_parts _ _ _ _ w (by omega) (by omega) (by omega) (by omega)).mono ?_
  rintro e w' ⟨rfl, hb⟩
  refine ⟨ret_bool ?_, hb⟩
  rw [Bool.eq_iff_iff]; simp; omega

set_option maxHeartbeats 1000000 in
theorem before_parts (n s m r : Int) (w : World) (h0 : 0 ≤ n) (h1 : n < 1000000000) (g0 : 0 ≤ m) (g1 : m < 1000000000) :
    Calls Try.prog 88 #[tv s n, tv r m] w fun e w' => e = .returned (.bool (decide (s < r ∨ s = r ∧ n < m))) ∧ Below w.heap.size w w' := by
  unfold tv
  have ha := and_mono2 n m h0 h1 g0 g1
  by_cases hlt : s < r
  · go_enter Try.func88, Try.ntmps88
    go_wp2_with (first | (go_at_call_of 85 (Value.pointer (some ⟨w.heap.size, 0, none⟩)); refine (sec_any _ _ n s _ h0 h1 ?_ ?_).mono ?_; go_simp; go_simp; rintro e w' ⟨rfl, rfl⟩) | (go_at_call 85; refine (sec_any _ _ m r _ g0 g1 ?_ ?_).mono ?_; go_simp; go_simp; rintro e w' ⟨rfl, rfl⟩))
    go_ret
    exact ⟨ret_bool (by simp [hlt]), (((Below.refl _ _).alloc (Nat.le_refl _) _).alloc (by simp) _)⟩
  · have hd : decide (s < r) = false := by simpa using hlt
    by_cases hsr : (s == r) = true
    all_goals
      go_enter Try.func88, Try.ntmps88
      go_wp2_with (first | (go_at_call_of 86 (Value.pointer (some ⟨w.heap.size, 0, none⟩)); refine (nsec_any _ _ n _ h0 h1 ?_).mono ?_; go_simp; rintro e w' ⟨rfl, rfl⟩) | (go_at_call 86; refine (nsec_any _ _ m _ g0 g1 ?_).mono ?_; go_simp; rintro e w' ⟨rfl, rfl⟩) | (go_at_call_of 85 (Value.pointer (some ⟨w.heap.size, 0, none⟩)); refine (sec_any _ _ n s _ h0 h1 ?_ ?_).mono ?_; go_simp; go_simp; rintro e w' ⟨rfl, rfl⟩) | (go_at_call 85; refine (sec_any _ _ m r _ g0 g1 ?_ ?_).mono ?_; go_simp; go_simp; rintro e w' ⟨rfl, rfl⟩))
      go_ret
      refine ⟨ret_bool ?_, (((Below.refl _ _).alloc (Nat.le_refl _) _).alloc (by simp) _)⟩
      simp at hsr
      simp [hsr]
    · omega

theorem before_any (x y : Int) (w : World) :
    Calls Try.prog 88 #[T x, T y] w fun e w' => e = .returned (.bool (decide (x < y))) ∧ Below w.heap.size w w' := by
  rw [show T x = tv (x / 1000000000) (x % 1000000000) from rfl, show T y = tv (y / 1000000000) (y % 1000000000) from rfl]
  refine (before_parts _ _ _ _ w (by omega) (by omega) (by omega) (by omega)).mono ?_
  rintro e w' ⟨rfl, hb⟩
  refine ⟨ret_bool ?_, hb⟩
  rw [Bool.eq_iff_iff]; simp; omega

theorem bcell {W w1 : World} (hb : Below W.heap.size W w1) : (∀ b o, b < W.heap.size → w1.cell? ⟨b, o, none⟩ = W.cell? ⟨b, o, none⟩) ∧ (∀ b o, b < W.heap.size → w1.frozen? ⟨b, o, none⟩ = W.frozen? ⟨b, o, none⟩) :=
  ⟨fun b o h => hb.cell (p := ⟨b, o, none⟩) h, fun b o h => hb.frozen (p := ⟨b, o, none⟩) h⟩

theorem sub_wraps (n s m r : Int) (d : Int) (hd : -9223372036854775808 ≤ d) (hd' : d ≤ 9223372036854775807) (h : (s * 1000000000 + n) - (r * 1000000000 + m) = d) :
    wrap64 (wrap64 ((s - r) * 1000000000) + (n - m)) = d := by
  unfold wrap64; omega

theorem add_tv (n s m r d : Int) (w : World) (h0 : 0 ≤ n) (h1 : n < 1000000000) (g0 : 0 ≤ m) (g1 : m < 1000000000) (hr : -10000000000 ≤ r) (hr' : r ≤ 10000000000)
    (hd : -9223372036854775808 ≤ d) (hd' : d ≤ 9223372036854775807) (h : (s * 1000000000 + n) - (r * 1000000000 + m) = d) :
    Calls Try.prog 78 #[.agg #[.int .u64 m, .int .i64 r, .pointer none], .int .i64 d] w fun e w' => e = .returned (.agg #[.int .u64 n, .int .i64 s, .pointer none]) ∧ Below w.heap.size w w' := by
  have e1 : T (r * 1000000000 + m) = .agg #[.int .u64 m, .int .i64 r, .pointer none] := by
    unfold T tv; rw [show (r * 1000000000 + m) / 1000000000 = r by omega, show (r * 1000000000 + m) % 1000000000 = m by omega]
  have e2 : T (r * 1000000000 + m + d) = .agg #[.int .u64 n, .int .i64 s, .pointer none] := by
    unfold T tv; rw [show (r * 1000000000 + m + d) / 1000000000 = s by omega, show (r * 1000000000 + m + d) % 1000000000 = n by omega]
  rw [← e1, ← e2]
  exact add_any _ d w (by omega) (by omega) hd hd'

theorem equal_tv (n s : Int) (w : World) (h0 : 0 ≤ n) (h1 : n < 1000000000) :
    Calls Try.prog 87 #[.agg #[.int .u64 n, .int .i64 s, .pointer none], .agg #[.int .u64 n, .int .i64 s, .pointer none]] w fun e w' => e = .returned (.bool true) ∧ Below w.heap.size w w' := by
  refine (equal_parts n s n s w h0 h1 h0 h1).mono ?_
  rintro e w' ⟨rfl, hb⟩
  exact ⟨ret_bool (by simp), hb⟩

set_option maxHeartbeats 1000000 in
theorem sub_parts (n s m r : Int) (d : Int) (w : World) (h0 : 0 ≤ n) (h1 : n < 1000000000) (g0 : 0 ≤ m) (g1 : m < 1000000000) (hs : -100000000000 ≤ s) (hs' : s ≤ 100000000000) (hr : -10000000000 ≤ r) (hr' : r ≤ 10000000000)
    (hd : -9223372036854775808 ≤ d) (hd' : d ≤ 9223372036854775807) (h : (s * 1000000000 + n) - (r * 1000000000 + m) = d) :
    Calls Try.prog 75 #[tv s n, tv r m] w fun e w' => e = .returned (.int .i64 d) ∧ Below w.heap.size w w' := by
  unfold tv
  have ha := and_mono2 n m h0 h1 g0 g1
  have HD : Hid _ := h
  have hw := sub_wraps n s m r d hd hd' h
  clear h
  go_enter Try.func75, Try.ntmps75
  go_wp2_with (first | (go_at_call_of 86 (Value.pointer (some ⟨w.heap.size, 0, none⟩)); refine (nsec_any _ _ n _ h0 h1 ?_).mono ?_; go_simp; rintro e w' ⟨rfl, rfl⟩) | (go_at_call 86; refine (nsec_any _ _ m _ g0 g1 ?_).mono ?_; go_simp; rintro e w' ⟨rfl, rfl⟩) | (go_at_call_of 85 (Value.pointer (some ⟨w.heap.size, 0, none⟩)); refine (sec_any _ _ n s _ h0 h1 ?_ ?_).mono ?_; go_simp; go_simp; rintro e w' ⟨rfl, rfl⟩) | (go_at_call 85; refine (sec_any _ _ m r _ g0 g1 ?_ ?_).mono ?_; go_simp; go_simp; rintro e w' ⟨rfl, rfl⟩))
  go_region_with (first | (go_at_call 78; refine (add_tv n s m r d _ h0 h1 g0 g1 hr hr' hd hd' HD.out).mono ?_; rintro e w1 ⟨rfl, hb1⟩; obtain ⟨hc1, hf1⟩ := bcell hb1) | (go_at_call 87; refine (equal_tv n s _ h0 h1).mono ?_; rintro e w2 ⟨rfl, hb2⟩))
  all_goals
    go_wp2
    go_ret
    refine ⟨rfl, ?_⟩
    have z1 := hb1.size
    simp at z1
    exact (((((Below.refl _ _).alloc (Nat.le_refl _) _).alloc (by simp) _).drew).trans (hb1.mono (by simp; omega))).trans (hb2.mono (by omega))

theorem sub_any (x y : Int) (w : World) (hx : -10000000000000000000 ≤ x) (hx' : x ≤ 10000000000000000000) (hy : -10000000000000000000 ≤ y) (hy' : y ≤ 10000000000000000000)
    (hd : -9223372036854775808 ≤ x - y) (hd' : x - y ≤ 9223372036854775807) :
    Calls Try.prog 75 #[T x, T y] w fun e w' => e = .returned (.int .i64 (x - y)) ∧ Below w.heap.size w w' := by
  rw [show T x = tv (x / 1000000000) (x % 1000000000) from rfl, show T y = tv (y / 1000000000) (y % 1000000000) from rfl]
  exact sub_parts _ _ _ _ (x - y) w (by omega) (by omega) (by omega) (by omega) (by omega) (by omega) (by omega) (by omega) hd hd' (by omega)

end Go.Proofs.Qxb6605676a.Tm
