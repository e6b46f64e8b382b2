import Derived.Test.Qxb6605676aRs3
namespace Go.Proofs.Qxb6605676a.Rs
set_option linter.unusedVariables false
set_option linter.unusedSimpArgs false
open Go.RowKit Go.Proofs.Qxb6605676a.Mp Go.Proofs.Qxb6605676a.Tm Go.Proofs.Qxb6605676a.En
open Go.ChangeMaps (setBlock heap_setBlock_same)

/-- What Restore leaves of cooldowns. -/
theorem get_rest (k : Key) (x : Int) : (Mp.get Key.same k (if x = 0 then [] else [(k, T x)])).getD (T 0) = T x := by
  by_cases h : x = 0
  · subst h; rfl
  · rw [if_neg h, get_one, if_pos ((same_iff _ _).2 rfl)]
theorem get_rest_ok (k : Key) (x : Int) : (Mp.get Key.same k (if x = 0 then [] else [(k, T x)])).isSome = !decide (x = 0) := by
  by_cases h : x = 0
  · subst h; rfl
  · rw [if_neg h, get_one_ok, (same_iff _ _).2 rfl, decide_eq_false h]; rfl

theorem may_rest (f d ts x : Int) : mayB f d (!decide (x = 0)) ts x = (decide (f ≤ d) && (decide (x = 0) || decide (x ≤ ts))) := by
  unfold mayB
  rw [Bool.eq_iff_iff]
  simp

theorem levels_at {w : World} {lb : Nat} {s0 s1 : ByteArray} (h : w.heap[lb]? = some (.cells #[.string s0, .string ⟨#[]⟩, .float .f64 0, .float .f64 0, .string s1, .string ⟨#[]⟩, .float .f64 0, .float .f64 0] 131)) : Levels2 w lb s0 s1 := by
  constructor <;> simp [World.cell?, h]

set_option maxHeartbeats 2000000 in
set_option maxRecDepth 10000 in
theorem ho_main0 (a0 a1 a2 a3 a4 : ByteArray) (a6 a7 a8 a9 : Int) (w : World) (h : a0.size + a1.size + a2.size + a3.size + a4.size ≤ 1048576) (hs : (a2.toList == a3.toList) = false)
    (q6 : withinB a6 = true) (q7 : withinB a7 = true) (q8 : withinB a8 = true) (q9 : withinB a9 = true) (b0 b1 b2 : Bool) (t0 : decide (a9 = 0) = b0) (t1 : decide (a6 ≤ a8 - a7) = b1) (t2 : decide (a9 ≤ a8) = b2) :
    Calls Try.prog 10 #[.string a0, .string a1, .string a2, .string a3, .string a4, .int .i64 0, .int .i64 a6, .int .i64 a7, .int .i64 a8, .int .i64 a9] w fun e w' => e = .returned (.bool true) ∧ Below w.heap.size w w' := by
  have h1 : (a0.size : Int) + a1.size + a2.size + a3.size + a4.size ≤ 1048576 := by omega
  have HSV : Hid ((a2.toList == a3.toList) = false) := hs
  have hs' : ¬ a2.toList = a3.toList := by simpa using hs
  obtain ⟨b6, b6'⟩ := En.within_iff q6
  obtain ⟨b7, b7'⟩ := En.within_iff q7
  obtain ⟨b8, b8'⟩ := En.within_iff q8
  obtain ⟨b9, b9'⟩ := En.within_iff q9
  have HF : Hid (mayB a6 (a8 - a7) (!b0) a8 a9 = (b1 && (b0 || b2))) := by
    show mayB a6 (a8 - a7) (!b0) a8 a9 = _
    subst t0
    subst t1
    subst t2
    exact may_rest _ _ _ _
  have t0' : (a9 == 0) = b0 := by rw [← t0]; by_cases h : a9 = 0 <;> simp [h]
  have HT : Hid (∀ W : World, Calls Try.prog 55 #[.int .i64 a9] W fun e w' => e = .returned (.agg #[.int .u64 (a9 % 1000000000), .int .i64 (a9 / 1000000000), .pointer none]) ∧ Below W.heap.size W w') := fun W => zztime_any a9 W (by omega) (by omega)
  cases b0
  all_goals cases b1
  all_goals cases b2
  all_goals
    go_enter Try.func10, Try.ntmps10
    go_wp2_with (first | (go_at_call 54; refine (bytes54_yes _ _ _ _ _ _ _ _ _ _ _ h).mono ?_; rintro e v0 ⟨rfl, rfl⟩) | (go_at_call 51; refine (zzwithin_any _ _).mono ?_; rintro e v1 ⟨rfl, rfl⟩) | (go_at_call 52; refine (zzengine2_any _ _ _ _ _ _).mono ?_; rintro e w1 ⟨rfl, hb1, E1, hlv⟩) | (go_at_call 55; refine Calls.mono (HT.out _) ?_; rintro e w2 ⟨rfl, hb2⟩; have hlv2 := (hb2.block _ (Array.getElem?_eq_some_iff.1 hlv).1).trans hlv; replace E1 := E1.below hb2; replace hb1 := hb1.trans (hb2.mono hb1.size); clear hb2 hlv) | (go_at_call 16; refine (restore_one a0 a1 a2 a3 a4 a2 a6 a9 0 _ w2.heap.size (by omega) (by omega) (E1.below ((Below.refl _ _).alloc (Nat.le_refl _) _)) ((levels_at hlv2).below ((Below.refl _ _).alloc (Nat.le_refl _) _)) (heap_alloc_last w2 _) (Or.inl ⟨rfl, by simp⟩)).mono ?_; rintro e w3 ⟨rfl, E3, hg3⟩) | (go_at_call 53; refine (zzmayFire_any E3 0 a4 a6 a7 a8 a9 _ rfl (get_rest _ _) (get_rest_ok _ _) (by omega) (by omega) (by omega) (by omega) (by omega)).mono ?_; rintro e w4 ⟨rfl, hb4⟩))
  all_goals
    go_ret
    refine ⟨ret_bool (by have hfin := HF.out; simp at hfin; rw [hfin]; all_goals simp), ?_⟩
    have z1 := hb1.size
    have z3 := hg3.size
    have k2 : Below _ _ (w2.alloc (.cells (okKey a0 a4 a1 a2 a9) 107)) := hb1.alloc z1 _
    have k3 := k2.grown hg3 (Nat.le_trans z1 (by simp)) (fun k hk => by have := Option.some.inj hk; omega)
    exact k3.trans (hb4.mono k3.size)

set_option maxHeartbeats 2000000 in
set_option maxRecDepth 10000 in
theorem ho_main1 (a0 a1 a2 a3 a4 : ByteArray) (a6 a7 a8 a9 : Int) (w : World) (h : a0.size + a1.size + a2.size + a3.size + a4.size ≤ 1048576) (hs : (a2.toList == a3.toList) = false)
    (q6 : withinB a6 = true) (q7 : withinB a7 = true) (q8 : withinB a8 = true) (q9 : withinB a9 = true) (b0 b1 b2 : Bool) (t0 : decide (a9 = 0) = b0) (t1 : decide (a6 ≤ a8 - a7) = b1) (t2 : decide (a9 ≤ a8) = b2) :
    Calls Try.prog 10 #[.string a0, .string a1, .string a2, .string a3, .string a4, .int .i64 1, .int .i64 a6, .int .i64 a7, .int .i64 a8, .int .i64 a9] w fun e w' => e = .returned (.bool true) ∧ Below w.heap.size w w' := by
  have h1 : (a0.size : Int) + a1.size + a2.size + a3.size + a4.size ≤ 1048576 := by omega
  have HSV : Hid ((a2.toList == a3.toList) = false) := hs
  have hs' : ¬ a2.toList = a3.toList := by simpa using hs
  obtain ⟨b6, b6'⟩ := En.within_iff q6
  obtain ⟨b7, b7'⟩ := En.within_iff q7
  obtain ⟨b8, b8'⟩ := En.within_iff q8
  obtain ⟨b9, b9'⟩ := En.within_iff q9
  have HF : Hid (mayB a6 (a8 - a7) (!b0) a8 a9 = (b1 && (b0 || b2))) := by
    show mayB a6 (a8 - a7) (!b0) a8 a9 = _
    subst t0
    subst t1
    subst t2
    exact may_rest _ _ _ _
  have t0' : (a9 == 0) = b0 := by rw [← t0]; by_cases h : a9 = 0 <;> simp [h]
  have HT : Hid (∀ W : World, Calls Try.prog 55 #[.int .i64 a9] W fun e w' => e = .returned (.agg #[.int .u64 (a9 % 1000000000), .int .i64 (a9 / 1000000000), .pointer none]) ∧ Below W.heap.size W w') := fun W => zztime_any a9 W (by omega) (by omega)
  cases b0
  all_goals cases b1
  all_goals cases b2
  all_goals
    go_enter Try.func10, Try.ntmps10
    go_wp2_with (first | (go_at_call 54; refine (bytes54_yes _ _ _ _ _ _ _ _ _ _ _ h).mono ?_; rintro e v0 ⟨rfl, rfl⟩) | (go_at_call 51; refine (zzwithin_any _ _).mono ?_; rintro e v1 ⟨rfl, rfl⟩) | (go_at_call 52; refine (zzengine2_any _ _ _ _ _ _).mono ?_; rintro e w1 ⟨rfl, hb1, E1, hlv⟩) | (go_at_call 55; refine Calls.mono (HT.out _) ?_; rintro e w2 ⟨rfl, hb2⟩; have hlv2 := (hb2.block _ (Array.getElem?_eq_some_iff.1 hlv).1).trans hlv; replace E1 := E1.below hb2; replace hb1 := hb1.trans (hb2.mono hb1.size); clear hb2 hlv) | (go_at_call 16; refine (restore_one a0 a1 a2 a3 a4 a3 a6 a9 1 _ w2.heap.size (by omega) (by omega) (E1.below ((Below.refl _ _).alloc (Nat.le_refl _) _)) ((levels_at hlv2).below ((Below.refl _ _).alloc (Nat.le_refl _) _)) (heap_alloc_last w2 _) (Or.inr ⟨rfl, HSV.out, by simp⟩)).mono ?_; rintro e w3 ⟨rfl, E3, hg3⟩) | (go_at_call 53; refine (zzmayFire_any E3 1 a4 a6 a7 a8 a9 _ rfl (get_rest _ _) (get_rest_ok _ _) (by omega) (by omega) (by omega) (by omega) (by omega)).mono ?_; rintro e w4 ⟨rfl, hb4⟩))
  all_goals
    go_ret
    refine ⟨ret_bool (by have hfin := HF.out; simp at hfin; rw [hfin]; all_goals simp), ?_⟩
    have z1 := hb1.size
    have z3 := hg3.size
    have k2 : Below _ _ (w2.alloc (.cells (okKey a0 a4 a1 a3 a9) 107)) := hb1.alloc z1 _
    have k3 := k2.grown hg3 (Nat.le_trans z1 (by simp)) (fun k hk => by have := Option.some.inj hk; omega)
    exact k3.trans (hb4.mono k3.size)

end Go.Proofs.Qxb6605676a.Rs
