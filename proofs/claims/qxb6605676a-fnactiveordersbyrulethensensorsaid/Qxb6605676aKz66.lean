import Derived.Test.Qxb6605676aKz59
import Derived.Test.Qxb6605676aKz62
import Derived.Test.Qxb6605676aKz65
import Derived.Test.Qxb6605676aKz30
import Derived.Test.Qxb6605676aKz37
import Derived.Test.Qxb6605676aKz43
namespace Go.Proofs.Qxb6605676a.Kz
set_option linter.unusedVariables false
set_option linter.unusedSimpArgs false
open Go.RowKit Go.Proofs.Qxb6605676a.Mp Go.Proofs.Qxb6605676a.Tm Go.Proofs.Qxb6605676a.En

theorem rulesLow {w : World} {B B' rb : Nat} {R : List RuleD} (h : RulesIn w B rb R) (hl : ∀ i r, R[i]? = some r → ∃ lb, lb < B' ∧ w.cell? ⟨rb, i * 6 + 2, none⟩ = some (.slice (some ⟨lb, 0, none⟩) r.sevs.length r.sevs.length)) : RulesIn w B' rb R := by
  intro i r hr
  obtain ⟨lb, f, g, k, h0, h1, h2, h3, h4, h5, h6, h7⟩ := h i r hr
  obtain ⟨lb', hlt, h2'⟩ := hl i r hr
  rw [h2] at h2'
  simp at h2'
  subst h2'
  exact ⟨lb, f, g, k, h0, h1, h2, h3, h4, h5, h6, hlt⟩
theorem rulesIn_two {w : World} {mb rb l0 l1 : Nat} {n0 m0 s0 n1 m1 s1 : ByteArray} {A C KB : List (Key × Value)} {LS SB : List ((ByteArray × ByteArray) × Value)} (E : Eng w mb rb 2 (ruleCells n0 m0 l0 1 0 ++ ruleCells n1 m1 l1 1 0) A C KB LS SB) (hL0 : LevelsAt w l0 [s0]) (hL1 : LevelsAt w l1 [s1]) (h0 : l0 < mb) (h1 : l1 < mb) :
    RulesIn w mb rb [⟨n0, m0, [s0]⟩, ⟨n1, m1, [s1]⟩] := by
  have hrul := E.rul
  intro i r hr
  match i, hr with
  | 0, hr =>
    simp at hr
    subst hr
    refine ⟨l0, 0, 0, 0, ?_, ?_, ?_, ?_, ?_, ?_, hL0, h0⟩ <;> simp [World.cell?, hrul, ruleCells]
  | 1, hr =>
    simp at hr
    subst hr
    refine ⟨l1, 0, 0, 0, ?_, ?_, ?_, ?_, ?_, ?_, hL1, h1⟩ <;> simp [World.cell?, hrul, ruleCells]
theorem rulesLb2 {w : World} {mb rb l0 l1 : Nat} {n0 m0 s0 n1 m1 s1 : ByteArray} {A C KB : List (Key × Value)} {LS SB : List ((ByteArray × ByteArray) × Value)} (E : Eng w mb rb 2 (ruleCells n0 m0 l0 1 0 ++ ruleCells n1 m1 l1 1 0) A C KB LS SB) (h0 : l0 < mb) (h1 : l1 < mb) :
    ∀ (i : Nat) (r : RuleD), ([⟨n0, m0, [s0]⟩, ⟨n1, m1, [s1]⟩] : List RuleD)[i]? = some r → ∃ lb, lb < mb ∧ w.cell? ⟨rb, i * 6 + 2, none⟩ = some (.slice (some ⟨lb, 0, none⟩) r.sevs.length r.sevs.length) := by
  have hrul := E.rul
  intro i r hr
  match i, hr with
  | 0, hr =>
    simp at hr
    subst hr
    exact ⟨l0, h0, by simp [World.cell?, hrul, ruleCells]⟩
  | 1, hr =>
    simp at hr
    subst hr
    exact ⟨l1, h1, by simp [World.cell?, hrul, ruleCells]⟩
theorem rulesAt_two (n0 m0 s0 n1 m1 s1 : ByteArray) (w4 : World) : RulesAt (((w4.alloc (.cells #[.string s0] 9)).alloc (.cells #[.string s1] 9)).alloc (.cells #[.string n0, .string m0, .slice (some ⟨w4.heap.size, 0, none⟩) 1 1, .string n1, .string m1, .slice (some ⟨w4.heap.size + 1, 0, none⟩) 1 1] 44)) (w4.heap.size + 2) [⟨n0, m0, [s0]⟩, ⟨n1, m1, [s1]⟩] := by
  have e0 : (((w4.alloc (.cells #[.string s0] 9)).alloc (.cells #[.string s1] 9)).alloc (.cells #[.string n0, .string m0, .slice (some ⟨w4.heap.size, 0, none⟩) 1 1, .string n1, .string m1, .slice (some ⟨w4.heap.size + 1, 0, none⟩) 1 1] 44)).heap[w4.heap.size]? = some (.cells #[.string s0] 9) := by
    rw [heap_alloc_old _ _ (by simp; omega), heap_alloc_old _ _ (by simp)]; exact heap_alloc_new _ _
  have e1 : (((w4.alloc (.cells #[.string s0] 9)).alloc (.cells #[.string s1] 9)).alloc (.cells #[.string n0, .string m0, .slice (some ⟨w4.heap.size, 0, none⟩) 1 1, .string n1, .string m1, .slice (some ⟨w4.heap.size + 1, 0, none⟩) 1 1] 44)).heap[w4.heap.size + 1]? = some (.cells #[.string s1] 9) := by
    rw [heap_alloc_old _ _ (by simp)]; simpa using heap_alloc_new (w4.alloc (.cells #[.string s0] 9)) (.cells #[.string s1] 9)
  have e2 : (((w4.alloc (.cells #[.string s0] 9)).alloc (.cells #[.string s1] 9)).alloc (.cells #[.string n0, .string m0, .slice (some ⟨w4.heap.size, 0, none⟩) 1 1, .string n1, .string m1, .slice (some ⟨w4.heap.size + 1, 0, none⟩) 1 1] 44)).heap[w4.heap.size + 2]? = some (.cells #[.string n0, .string m0, .slice (some ⟨w4.heap.size, 0, none⟩) 1 1, .string n1, .string m1, .slice (some ⟨w4.heap.size + 1, 0, none⟩) 1 1] 44) := by
    simpa using heap_alloc_new ((w4.alloc (.cells #[.string s0] 9)).alloc (.cells #[.string s1] 9)) (.cells #[.string n0, .string m0, .slice (some ⟨w4.heap.size, 0, none⟩) 1 1, .string n1, .string m1, .slice (some ⟨w4.heap.size + 1, 0, none⟩) 1 1] 44)
  generalize (((w4.alloc (.cells #[.string s0] 9)).alloc (.cells #[.string s1] 9)).alloc (.cells #[.string n0, .string m0, .slice (some ⟨w4.heap.size, 0, none⟩) 1 1, .string n1, .string m1, .slice (some ⟨w4.heap.size + 1, 0, none⟩) 1 1] 44)) = W at *
  intro i r hr
  match i, hr with
  | 0, hr =>
    simp at hr
    subst hr
    refine ⟨by simp [World.cell?, e2], by simp [World.cell?, e2], w4.heap.size, by simp [World.cell?, e2], ?_⟩
    intro j s hs
    match j, hs with
    | 0, hs => simp at hs; subst hs; simp [World.cell?, e0]
  | 1, hr =>
    simp at hr
    subst hr
    refine ⟨by simp [World.cell?, e2], by simp [World.cell?, e2], w4.heap.size + 1, by simp [World.cell?, e2], ?_⟩
    intro j s hs
    match j, hs with
    | 0, hs => simp at hs; subst hs; simp [World.cell?, e1]
/-- The law's own rules, then the engine. -/
theorem two_at (n0 m0 s0 n1 m1 s1 : ByteArray) (w4 : World) :
    Calls Try.prog 21 #[.string n0, .string m0, .string s0, .string n1, .string m1, .string s1] (((w4.alloc (.cells #[.string s0] 9)).alloc (.cells #[.string s1] 9)).alloc (.cells #[.string n0, .string m0, .slice (some ⟨w4.heap.size, 0, none⟩) 1 1, .string n1, .string m1, .slice (some ⟨w4.heap.size + 1, 0, none⟩) 1 1] 44)) fun e w' => ∃ (w5 : World) (mb rb l0 l1 : Nat), e = .returned (.pointer (some ⟨mb + 5, 0, none⟩)) ∧ Below w4.heap.size w4 w5 ∧ RulesAt w5 (w4.heap.size + 2) [⟨n0, m0, [s0]⟩, ⟨n1, m1, [s1]⟩] ∧ w4.heap.size + 2 < w5.heap.size ∧ Below w5.heap.size w5 w' ∧
      Eng w' mb rb 2 (ruleCells n0 m0 l0 1 0 ++ ruleCells n1 m1 l1 1 0) [] [] [] [] [] ∧ LevelsAt w' l0 [s0] ∧ LevelsAt w' l1 [s1] ∧ w5.heap.size ≤ rb ∧ l0 < mb ∧ l1 < mb := by
  have hb : Below w4.heap.size w4 (((w4.alloc (.cells #[.string s0] 9)).alloc (.cells #[.string s1] 9)).alloc (.cells #[.string n0, .string m0, .slice (some ⟨w4.heap.size, 0, none⟩) 1 1, .string n1, .string m1, .slice (some ⟨w4.heap.size + 1, 0, none⟩) 1 1] 44)) := (((Below.refl _ _).alloc (Nat.le_refl _) _).alloc (by simp) _).alloc (by simp; omega) _
  have hr := rulesAt_two n0 m0 s0 n1 m1 s1 w4
  have hsz : w4.heap.size + 2 < (((w4.alloc (.cells #[.string s0] 9)).alloc (.cells #[.string s1] 9)).alloc (.cells #[.string n0, .string m0, .slice (some ⟨w4.heap.size, 0, none⟩) 1 1, .string n1, .string m1, .slice (some ⟨w4.heap.size + 1, 0, none⟩) 1 1] 44)).heap.size := by simp
  refine (zztwo_any n0 m0 s0 n1 m1 s1 _).mono ?_
  rintro e w' ⟨mb, rb, l0, l1, h1, h2, h3, h4, h5, h6, h7, h8, h9, h10⟩
  exact ⟨_, mb, rb, l0, l1, h1, hb, hr, hsz, h2, h3, h4, h5, h6, h9, h10⟩
theorem own_two {n0 m0 s0 n1 m1 s1 : ByteArray} (h : ¬ n0.toList = n1.toList) : Own [⟨n0, m0, [s0]⟩, ⟨n1, m1, [s1]⟩] := by
  intro i j r r' hi hj he
  match i, j, hi, hj with
  | 0, 0, _, _ => rfl
  | 1, 1, _, _ => rfl
  | 0, 1, hi, hj => simp at hi hj; subst hi hj; exact absurd he h
  | 1, 0, hi, hj => simp at hi hj; subst hi hj; exact absurd he.symm h

set_option maxHeartbeats 8000000 in
set_option maxRecDepth 100000 in
theorem law7 (n0 m0 s0 n1 m1 s1 : ByteArray) (K : List ZK) (a1 : Option Addr) (c1 : Nat) (w : World)
    (h1 : (K = [] ∧ (a1 = none → c1 = 0)) ∨ ∃ b o, a1 = some ⟨b, o, none⟩ ∧ KeysAt w b o K)
    (o1 : ∀ q ∈ K, ZK.Ok q)
    (ln0 : n0.size < 2 ^ 63) (lm0 : m0.size < 2 ^ 63) (l0 : s0.size < 2 ^ 63) (ln1 : n1.size < 2 ^ 63) (lm1 : m1.size < 2 ^ 63) (l1 : s1.size < 2 ^ 63) (lk : K.length < 2 ^ 63) :
    Calls Try.prog 4 #[.string n0, .string m0, .string s0, .string n1, .string m1, .string s1, .slice a1 K.length c1] w fun e w' => e = .returned (.bool true) ∧ Below w.heap.size w w' := by
  have A1 : Hid ((K = [] ∧ (a1 = none → c1 = 0)) ∨ ∃ b o, a1 = some ⟨b, o, none⟩ ∧ KeysAt w b o K) := h1
  have H20 : Hid (Calls Try.prog 20 #[.string n0, .string m0, .string s0, .string n1, .string m1, .string s1, .slice a1 K.length c1] w fun e w' => RBS K e ∧ w = w') :=
    zzbytes20 n0 m0 s0 n1 m1 s1 K a1 c1 w (h1.imp (·.1) id) ln0 lm0 l0 ln1 lm1 l1 lk
  have O1 : Hid (∀ q ∈ K, ZK.Ok q) := o1
  clear h1 o1
  go_enter Try.func4, Try.ntmps4
  go_wp2_with fail
  refine Calls.mono H20.out ?_
  rintro e _ ⟨⟨b, rfl, hse⟩, rfl⟩
  clear H20
  cases b
  · clear hse
    go_wp2_with fail
    go_ret
    exact ⟨rfl, Below.refl _ _⟩
  have HSE : Hid (∀ q ∈ K, q.sensor.size ≤ 1048576) := hse rfl
  clear hse
  rcases Nat.lt_or_ge 4096 K.length with hk | hk
  · go_wp2_with fail
    go_ret
    exact ⟨rfl, Below.refl _ _⟩
  go_wp2_with fail
  refine Calls.mono (zzkeysBytes_ri K a1 c1 w (A1.out.imp (·.1) id) hk) ?_
  rintro e w1 ⟨⟨x1, rfl⟩, b1⟩
  have B1 : Hid (Below w.heap.size w w1) := b1
  have b1' := b1
  clear b1
  cases hz0 : (n0.toList == n1.toList) with
  | true =>
    go_wp2_with fail
    all_goals (go_ret; exact ⟨rfl, B1.out⟩)
  | false =>
  have hz0' : ¬ n0.toList = n1.toList := by simpa using hz0
  cases hz1 : (m0.toList == m1.toList) with
  | true =>
    go_wp2_with fail
    all_goals (go_ret; exact ⟨rfl, B1.out⟩)
  | false =>
  have hz1' : ¬ m0.toList = m1.toList := by simpa using hz1
  go_wp2_with fail
  any_goals (first | (go_ret; exact ⟨rfl, B1.out⟩) | skip)
  refine Calls.mono (zzcopyKeys_arg K a1 c1 w1 (A1.out.imp id fun ⟨b, o, h1, h2⟩ => ⟨b, o, h1, h2.below B1.out⟩) hk) ?_
  rintro e w4 ⟨ka, kc, rfl, hK4, b4⟩
  have HB4 : Hid (Below w.heap.size w w4) := Below.step B1.out b4
  have HK4 : Hid (KArg w4 ka K) := hK4
  clear b4 hK4 A1 B1 b1'
  go_wp2_with fail
  refine Calls.mono (two_at n0 m0 s0 n1 m1 s1 w4) ?_
  rintro e w8 ⟨w5, mb, rb, lv0, lv1, rfl, b5, hr5, hz5, b8, E8, L0, L1, hrb, hl0, hl1⟩
  have HR5 : Hid (RulesAt w5 (w4.heap.size + 2) [⟨n0, m0, [s0]⟩, ⟨n1, m1, [s1]⟩]) := hr5
  have HE8 : Hid (Eng w8 mb rb 2 (ruleCells n0 m0 lv0 1 0 ++ ruleCells n1 m1 lv1 1 0) [] [] [] [] []) := E8
  have HL0 : Hid (LevelsAt w8 lv0 [s0]) := L0
  have HL1 : Hid (LevelsAt w8 lv1 [s1]) := L1
  have HB8 : Hid (Below w5.heap.size w5 w8) := b8
  have HK5 : Hid (KArg w5 ka K) := HK4.out.below b5
  have HB5 : Hid (Below w.heap.size w w5) := Below.step HB4.out b5
  have hlow := E8.low
  clear E8 L0 L1 b8 hr5 b5 HK4 HB4
  go_wp2_with fail
  refine Calls.mono (zzkeyStates K ka kc w8 (karg_of (HK5.out.below HB8.out)) O1.out hk) ?_
  rintro e w9 ⟨rfl, r9, b9, s9⟩
  have HB9 : Hid (Below w8.heap.size w8 w9) := b9
  have B59 : Hid (Below w5.heap.size w5 w9) := Below.step HB8.out b9
  have hR1 : ([⟨n0, m0, [s0]⟩, ⟨n1, m1, [s1]⟩] : List RuleD).length ≤ 1000 := by simp
  have hone : ∀ r ∈ ([⟨n0, m0, [s0]⟩, ⟨n1, m1, [s1]⟩] : List RuleD), ∃ s, r.sevs = [s] := by
    intro r hr
    simp at hr
    rcases hr with rfl | rfl
    · exact ⟨s0, rfl⟩
    · exact ⟨s1, rfl⟩
  have hRs : ∀ r ∈ ([⟨n0, m0, [s0]⟩, ⟨n1, m1, [s1]⟩] : List RuleD), r.sevs.length ≤ 1000 := by
    intro r hr
    obtain ⟨s, hs⟩ := hone r hr
    rw [hs]; simp
  have hns : ∀ r ∈ ([⟨n0, m0, [s0]⟩, ⟨n1, m1, [s1]⟩] : List RuleD), r.name.size < 2 ^ 63 := by
    intro r hr
    simp at hr
    rcases hr with rfl | rfl
    · exact ln0
    · exact ln1
  have HC16 : Hid (Calls Try.prog 16 #[.pointer (some ⟨mb + 5, 0, none⟩), .agg #[.slice (some ⟨w8.heap.size, 0, none⟩) K.length K.length, .slice none 0 0, .slice none 0 0]] w9 fun e w' =>
      ∃ (ptrs : List Nat) (pb lr bx base : Nat) (l lE : Value), e = .returned (.tuple #[l, lE]) ∧ ptrs.length = K.length ∧ w9.heap.size < base ∧
        Rel3 w9 none none mb rb pb lr bx base w8.heap.size w8.heap.size w8.heap.size (ruleCells n0 m0 lv0 1 0 ++ ruleCells n1 m1 lv1 1 0) [⟨n0, m0, [s0]⟩, ⟨n1, m1, [s1]⟩] K [] [] [] (K.zip ptrs) K K (unmL [⟨n0, m0, [s0]⟩, ⟨n1, m1, [s1]⟩] K) w' l ∧ w'.ownsRow base 74 13 lE (endL [⟨n0, m0, [s0]⟩, ⟨n1, m1, [s1]⟩] K []).length ((endL [⟨n0, m0, [s0]⟩, ⟨n1, m1, [s1]⟩] K []).flatMap (teCells K))) :=
    restore_any [⟨n0, m0, [s0]⟩, ⟨n1, m1, [s1]⟩] (HE8.out.below b9) (rulesIn_two (HE8.out.below b9) (HL0.out.below b9) (HL1.out.below b9) hl0 hl1) hR1 hRs K [] [] w8.heap.size w8.heap.size w8.heap.size none none r9 (by intro j x hx; simp at hx) (by intro j x hx; simp at hx) (.inl rfl) (.inl rfl) s9 s9 s9 hk (by simp) (by simp)
  clear r9 HE8 HL0 HL1 HB8 HB9 b9
  have HONE : Hid (∀ r ∈ ([⟨n0, m0, [s0]⟩, ⟨n1, m1, [s1]⟩] : List RuleD), ∃ s, r.sevs = [s]) := hone
  have HNS : Hid (∀ r ∈ ([⟨n0, m0, [s0]⟩, ⟨n1, m1, [s1]⟩] : List RuleD), r.name.size < 2 ^ 63) := hns
  have HRS : Hid (∀ r ∈ ([⟨n0, m0, [s0]⟩, ⟨n1, m1, [s1]⟩] : List RuleD), r.sevs.length ≤ 1000) := hRs
  clear hone hns hRs
  go_wp2_with fail
  refine Calls.mono HC16.out ?_
  rintro e w12 ⟨ptrs, pb, lr, bx, base, l, lE, rfl, hpl, hbase, rel, hown⟩
  clear HC16 hown
  have B512 : Hid (Below w5.heap.size w5 w12) := B59.out.trans (rel.frame.mono (by omega))
  have HAC : Hid (AcE mb rb (ruleCells n0 m0 lv0 1 0 ++ ruleCells n1 m1 lv1 1 0) [⟨n0, m0, [s0]⟩, ⟨n1, m1, [s1]⟩] K ptrs (coMap [⟨n0, m0, [s0]⟩, ⟨n1, m1, [s1]⟩] K) [] (lsMap []) [] w12) := ⟨rel.eng, rulesLow rel.rules (rulesLb2 rel.eng hl0 hl1), rel.ptr⟩
  clear rel B59
  have H19 : Hid _ := active_any HAC.out hpl hk hR1 HRS.out (fun D D' => D'.Perm D ∧ SortedL D') (fun D g cap W h1 h2 h3 h4 h5 => sort63 w12 D g cap W h1 h2 h3 h4 h5)
  have HPL : Hid (ptrs.length = K.length) := hpl
  clear HAC hpl
  go_wp2_with fail
  refine Calls.mono H19.out ?_
  rintro e w13 ⟨ga, ca, Y, D0, D, rfl, hrows, hperm, hrec, ⟨hp, hsD⟩, hDl, b13⟩
  have HC18 : Hid (Calls Try.prog 18 #[.slice (some ⟨w4.heap.size + 2, 0, none⟩) 2 2, .slice ka K.length kc, .slice (some ⟨ga, 0, none⟩) D.length ca] w13 fun e w' => e = .returned (.bool true) ∧ Below w13.heap.size w13 w') :=
    zzactiveAgrees_any [⟨n0, m0, [s0]⟩, ⟨n1, m1, [s1]⟩] K D (w4.heap.size + 2) ga ka kc ca D.length w13 (HR5.out.below (B512.out.trans (b13.mono B512.out.size))) (by have := B512.out.size; have := b13.size; omega) hR1 HNS.out HONE.out (HK5.out.below (B512.out.trans (b13.mono B512.out.size))) hk (fun q hq => by have := HSE.out q hq; omega) O1.out hrows rfl
      (fun E hE hsE => act_eq HPL.out HONE.out (own_two hz0') hperm hrec hp hsD hE hsE)
  have HB13 : Hid (Below w.heap.size w w13) := Below.step (HB5.out.trans (B512.out.mono HB5.out.size)) b13
  clear hrows hperm hrec hp hsD b13 H19
  go_wp2_with fail
  refine Calls.mono HC18.out ?_
  rintro e w14 ⟨rfl, b14⟩
  have HB14 : Hid (Below w.heap.size w w14) := Below.step HB13.out b14
  clear b14 HC18
  go_wp2_with fail
  go_ret
  exact ⟨rfl, HB14.out⟩
end Go.Proofs.Qxb6605676a.Kz
