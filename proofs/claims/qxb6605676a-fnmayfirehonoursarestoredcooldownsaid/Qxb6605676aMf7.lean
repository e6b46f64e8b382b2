import Derived.Test.Qxb6605676aMf6
namespace Go.Proofs.Qxb6605676a.En
set_option linter.unusedVariables false
set_option linter.unusedSimpArgs false
open Go.RowKit Go.Proofs.Qxb6605676a.Mp Go.Proofs.Qxb6605676a.Tm
open Go.ChangeMaps (setBlock heap_setBlock_same)

theorem within_iff {x : Int} (h : withinB x = true) : -2305843009213693952 ≤ x ∧ x ≤ 2305843009213693952 := by
  simpa [withinB] using h

theorem mayB_idle (f d ts x : Int) : mayB f d false ts x = decide (f ≤ d) := by simp [mayB]

set_option maxHeartbeats 1000000 in
set_option maxRecDepth 10000 in
theorem main_calm (a0 : Int) (a1 : ByteArray) (a2 a3 a4 : Int) (a6 : Int) (a7 : ByteArray) (a8 : Int) (w : World) (h : a1.size + a7.size ≤ 1048576) (l0 : 0 ≤ a0) (l1 : a0 ≤ 1) (c0 : 0 ≤ a6) (c1 : a6 ≤ 1)
    (q2 : withinB a2 = true) (q3 : withinB a3 = true) (q4 : withinB a4 = true) (q8 : withinB a8 = true) :
    Calls Try.prog 9 #[.int .i64 a0, .string a1, .int .i64 a2, .int .i64 a3, .int .i64 a4, .bool false, .int .i64 a6, .string a7, .int .i64 a8] w fun e w' => e = .returned (.bool true) ∧ Below w.heap.size w w' := by
  have h3 : (a1.size : Int) + a7.size ≤ 1048576 := by omega
  have e1 : decide (a0 < 0) = false := by simp; omega
  have e2 : decide (1 < a0) = false := by simp; omega
  have e3 : decide (a6 < 0) = false := by simp; omega
  have e4 : decide (1 < a6) = false := by simp; omega
  obtain ⟨b2, b2'⟩ := within_iff q2
  obtain ⟨b3, b3'⟩ := within_iff q3
  obtain ⟨b4, b4'⟩ := within_iff q4
  have HF : Hid (mayB a2 (a4 - a3) false a4 0 = decide (a3 + a2 ≤ a4)) := by
    show mayB a2 (a4 - a3) false a4 0 = _
    rw [mayB_idle, Bool.eq_iff_iff]; simp; omega
  go_enter Try.func9, Try.ntmps9
  go_wp2_with (first | (go_at_call 50; refine (bytes50_yes _ _ _ _ _ _ _ _ _ _ h).mono ?_; rintro e w1 ⟨rfl, rfl⟩) | (go_at_call 51; refine (zzwithin_any _ _).mono ?_; rintro e w1 ⟨rfl, rfl⟩) | (go_at_call 52; refine (zzengine2_any _ _ _ _ _ _).mono ?_; rintro e w1 ⟨rfl, hb1, E1, _⟩) | (go_at_call 53; refine (zzmayFire_any E1 a0 a1 a2 a3 a4 0 false rfl rfl rfl (by omega) (by omega) (by omega) (by omega) (by omega)).mono ?_; rintro e w2 ⟨rfl, hb2⟩) | (go_at_call 43; refine (zzsizes_any (E1.below hb2)).mono ?_; rintro e w3 ⟨rfl, hb3⟩))
  go_ret
  refine ⟨ret_bool (by rw [HF.out]; simp), ?_⟩
  have z1 := hb1.size
  have z2 := hb2.size
  exact (hb1.trans (hb2.mono z1)).trans (hb3.mono (by omega))

theorem get_one (k k' : Key) (v z : Value) : (get Key.same k [(k', v)]).getD z = if k.same k' then v else z := by
  by_cases h : k.same k' = true <;> simp [Mp.get, h]
theorem get_one_ok (k k' : Key) (v : Value) : (get Key.same k [(k', v)]).isSome = k.same k' := by
  by_cases h : k.same k' = true <;> simp [Mp.get, h]

/-- What the law compares with. -/
def fromB (hit : Bool) (s f e : Int) : Int := if hit && decide (s + f < e) then e else s + f

theorem mayB_law (hit : Bool) (f s ts e : Int) : mayB f (ts - s) hit ts (if hit then e else 0) = decide (fromB hit s f e ≤ ts) := by
  unfold mayB fromB
  cases hit
  · rw [Bool.eq_iff_iff]; simp; omega
  · by_cases h : s + f < e
    · rw [Bool.eq_iff_iff]; simp [h]; omega
    · rw [Bool.eq_iff_iff]; simp [h]; omega

set_option maxHeartbeats 1000000 in
set_option maxRecDepth 10000 in
theorem main_cool (a0 : Int) (a1 : ByteArray) (a2 a3 a4 : Int) (a6 : Int) (a7 : ByteArray) (a8 : Int) (w : World) (h : a1.size + a7.size ≤ 1048576) (l0 : 0 ≤ a0) (l1 : a0 ≤ 1) (c0 : 0 ≤ a6) (c1 : a6 ≤ 1)
    (q2 : withinB a2 = true) (q3 : withinB a3 = true) (q4 : withinB a4 = true) (q8 : withinB a8 = true) (hl hs : Bool) (hlev : (a6 == a0) = hl) (hsen : (a7.toList == a1.toList) = hs) (hlt : Bool) (hdl : decide (a3 + a2 < a8) = hlt) :
    Calls Try.prog 9 #[.int .i64 a0, .string a1, .int .i64 a2, .int .i64 a3, .int .i64 a4, .bool true, .int .i64 a6, .string a7, .int .i64 a8] w fun e w' => e = .returned (.bool true) ∧ Below w.heap.size w w' := by
  have h3 : (a1.size : Int) + a7.size ≤ 1048576 := by omega
  have e1 : decide (a0 < 0) = false := by simp; omega
  have e2 : decide (1 < a0) = false := by simp; omega
  have e3 : decide (a6 < 0) = false := by simp; omega
  have e4 : decide (1 < a6) = false := by simp; omega
  obtain ⟨b2, b2'⟩ := within_iff q2
  obtain ⟨b3, b3'⟩ := within_iff q3
  obtain ⟨b4, b4'⟩ := within_iff q4
  obtain ⟨b8, b8'⟩ := within_iff q8
  have hsame : Key.same ⟨0, a0, a1⟩ ⟨0, a6, a7⟩ = (hl && hs) := by
    rw [← hlev, ← hsen]
    simp only [Key.same]
    rw [show (a0 == a6) = (a6 == a0) from Bool.eq_iff_iff.2 (by simp; exact eq_comm), show (a1.toList == a7.toList) = (a7.toList == a1.toList) from Bool.eq_iff_iff.2 (by simp; exact eq_comm)]
    simp
  have HF : Hid (mayB a2 (a4 - a3) (hl && hs) a4 (if hl && hs then a8 else 0) = decide ((if hl && hs && hlt then a8 else a3 + a2) ≤ a4)) := by
    show mayB a2 (a4 - a3) (hl && hs) a4 (if hl && hs then a8 else 0) = _
    rw [mayB_law, fromB, hdl]
  have HG : Hid ((get Key.same ⟨0, a0, a1⟩ (put Key.same ⟨0, a6, a7⟩ (T a8) [])).getD (T 0) = T (if hl && hs then a8 else 0)) := by
    show (get Key.same ⟨0, a0, a1⟩ [(⟨0, a6, a7⟩, T a8)]).getD (T 0) = _
    rw [get_one, hsame]
    cases hl && hs <;> rfl
  have HO : Hid ((get Key.same ⟨0, a0, a1⟩ (put Key.same ⟨0, a6, a7⟩ (T a8) [])).isSome = (hl && hs)) := by
    show (get Key.same ⟨0, a0, a1⟩ [(⟨0, a6, a7⟩, T a8)]).isSome = _
    rw [get_one_ok, hsame]
  have HG2 : Hid ((get Key.same ⟨0, a6, a7⟩ (put Key.same ⟨0, a6, a7⟩ (T a8) [])).getD (T 0) = T a8) := by
    show (get Key.same ⟨0, a6, a7⟩ [(⟨0, a6, a7⟩, T a8)]).getD (T 0) = _
    rw [get_one, if_pos ((same_iff _ _).2 rfl)]
  have HO2 : Hid ((get Key.same ⟨0, a6, a7⟩ (put Key.same ⟨0, a6, a7⟩ (T a8) [])).isSome = true) := by
    show (get Key.same ⟨0, a6, a7⟩ [(⟨0, a6, a7⟩, T a8)]).isSome = _
    rw [get_one_ok, (same_iff _ _).2 rfl]
  clear hsame
  generalize hx : (if hl && hs then a8 else 0) = x0 at *
  clear hx
  cases hl
  all_goals cases hs
  all_goals cases hlt
  all_goals
    go_enter Try.func9, Try.ntmps9
    go_wp2_with (first | (go_at_call 50; refine (bytes50_yes _ _ _ _ _ _ _ _ _ _ h).mono ?_; rintro e w1 ⟨rfl, rfl⟩) | (go_at_call 51; refine (zzwithin_any _ _).mono ?_; rintro e w1 ⟨rfl, rfl⟩) | (go_at_call 52; refine (zzengine2_any _ _ _ _ _ _).mono ?_; rintro e w1 ⟨rfl, hb1, E1, _⟩) | (go_at_call 38; refine (zzset_any E1 0 a6 a7 a8 (by omega) (by omega)).mono ?_; rintro e w2 ⟨rfl, hg2, hm2⟩; have E2 := E1.setCool hg2 hm2; clear hm2) | (go_at_call 53; refine (zzmayFire_any E2 a0 a1 a2 a3 a4 _ _ rfl HG.out HO.out (by omega) (by omega) (by omega) (by omega) (by omega)).mono ?_; rintro e w3 ⟨rfl, hb3⟩) | (go_at_call 43; refine (zzsizes_any (E2.below hb3)).mono ?_; rintro e w4 ⟨rfl, hb4⟩) | (go_at_call 44; refine (zzcoolat_any ((E2.below hb3).below hb4) 0 a6 a7 a8 (by omega) (by omega) true HG2.out HO2.out).mono ?_; rintro e w5 ⟨rfl, hb5⟩))
  all_goals
    go_ret
    refine ⟨ret_bool (by have hfin := HF.out; simp at hfin; rw [hfin]; simp), ?_⟩
    have z1 := hb1.size
    have z2 := hg2.size
    have z3 := hb3.size
    have z4 := hb4.size
    have k2 := hb1.grown hg2 z1 (fun k hk => by have := Option.some.inj hk; omega)
    exact ((k2.trans (hb3.mono (by omega))).trans (hb4.mono (by omega))).trans (hb5.mono (by omega))

theorem mayFire_law (a0 : Int) (a1 : ByteArray) (a2 a3 a4 : Int) (a5 : Bool) (a6 : Int) (a7 : ByteArray) (a8 : Int) (m1 : a1.size ≤ maxLen) (m7 : a7.size ≤ maxLen) (w : World) :
    Calls Try.prog 9 #[.int .i64 a0, .string a1, .int .i64 a2, .int .i64 a3, .int .i64 a4, .bool a5, .int .i64 a6, .string a7, .int .i64 a8] w fun e w' => e = .returned (.bool true) ∧ Below w.heap.size w w' := by
  by_cases h : a1.size + a7.size ≤ 1048576
  · by_cases hl : a0 < 0 ∨ 1 < a0 ∨ a6 < 0 ∨ 1 < a6
    · exact out_level a0 a1 a2 a3 a4 a5 a6 a7 a8 w h hl
    · cases q2 : withinB a2
      · exact out_within a0 a1 a2 a3 a4 a5 a6 a7 a8 w h (by omega) (by omega) (by omega) (by omega) (Or.inl q2)
      cases q3 : withinB a3
      · exact out_within a0 a1 a2 a3 a4 a5 a6 a7 a8 w h (by omega) (by omega) (by omega) (by omega) (Or.inr (Or.inl q3))
      cases q4 : withinB a4
      · exact out_within a0 a1 a2 a3 a4 a5 a6 a7 a8 w h (by omega) (by omega) (by omega) (by omega) (Or.inr (Or.inr (Or.inl q4)))
      cases q8 : withinB a8
      · exact out_within a0 a1 a2 a3 a4 a5 a6 a7 a8 w h (by omega) (by omega) (by omega) (by omega) (Or.inr (Or.inr (Or.inr q8)))
      cases a5
      · exact main_calm a0 a1 a2 a3 a4 a6 a7 a8 w h (by omega) (by omega) (by omega) (by omega) q2 q3 q4 q8
      · exact main_cool a0 a1 a2 a3 a4 a6 a7 a8 w h (by omega) (by omega) (by omega) (by omega) q2 q3 q4 q8 _ _ rfl rfl _ rfl
  · exact out_bytes a0 a1 a2 a3 a4 a5 a6 a7 a8 m1 m7 w h
end Go.Proofs.Qxb6605676a.En
