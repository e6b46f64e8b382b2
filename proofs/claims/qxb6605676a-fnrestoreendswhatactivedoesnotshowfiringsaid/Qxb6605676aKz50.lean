import Derived.Test.Qxb6605676aKz49
import Derived.Test.Qxb6605676aKz38
namespace Go.Proofs.Qxb6605676a.Kz
set_option linter.unusedVariables false
set_option linter.unusedSimpArgs false
open Go.RowKit Go.Proofs.Qxb6605676a.Mp Go.Proofs.Qxb6605676a.Tm Go.Proofs.Qxb6605676a.En

/-- The levels lie as low as one says. -/
theorem RulesIn.low {w : World} {B B' rb : Nat} {R : List RuleD} (h : RulesIn w B rb R) (hl : ∀ i r, R[i]? = some r → ∃ lb, lb < B' ∧ w.cell? ⟨rb, i * 6 + 2, none⟩ = some (.slice (some ⟨lb, 0, none⟩) r.sevs.length r.sevs.length)) : RulesIn w B' rb R := by
  intro i r hr
  obtain ⟨lb, f, g, k, h0, h1, h2, h3, h4, h5, h6, h7⟩ := h i r hr
  obtain ⟨lb', hlt, h2'⟩ := hl i r hr
  rw [h2] at h2'
  simp at h2'
  subst h2'
  exact ⟨lb, f, g, k, h0, h1, h2, h3, h4, h5, h6, hlt⟩
theorem rulesLb {w : World} {mb rb lb : Nat} {n m : ByteArray} {sv' : List ByteArray} {f : Int} {A C KB : List (Key × Value)} {LS SB : List ((ByteArray × ByteArray) × Value)} (E : Eng w mb rb 1 (ruleCells n m lb sv'.length f) A C KB LS SB) :
    ∀ (i : Nat) (r : RuleD), ([⟨n, m, sv'⟩] : List RuleD)[i]? = some r → w.cell? ⟨rb, i * 6 + 2, none⟩ = some (.slice (some ⟨lb, 0, none⟩) r.sevs.length r.sevs.length) := by
  intro i r hr
  cases i with
  | succ i => simp at hr
  | zero =>
    simp at hr
    subst hr
    have hrul := E.rul
    simp [World.cell?, hrul, ruleCells]

set_option maxHeartbeats 8000000 in
set_option maxRecDepth 100000 in
theorem law6 (n m s0 s1 : ByteArray) (two : Bool) (K : List ZK) (T' : List ZR) (a1 a3 : Option Addr) (c1 c3 : Nat) (w : World)
    (h1 : (K = [] ∧ (a1 = none → c1 = 0)) ∨ ∃ b o, a1 = some ⟨b, o, none⟩ ∧ KeysAt w b o K) (h3 : (T' = [] ∧ (a3 = none → c3 = 0)) ∨ ∃ b o, a3 = some ⟨b, o, none⟩ ∧ RaisedAt w b o T')
    (o1 : ∀ q ∈ K, ZK.Ok q) (o3 : ∀ q ∈ T', ZR.Ok q)
    (ln : n.size < 2 ^ 63) (lm : m.size < 2 ^ 63) (l0 : s0.size < 2 ^ 63) (l1 : s1.size < 2 ^ 63) (lk : K.length < 2 ^ 63) (lt : T'.length < 2 ^ 63) :
    Calls Try.prog 6 #[.string n, .string m, .string s0, .string s1, .bool two, .slice a1 K.length c1, .slice a3 T'.length c3] w fun e w' => e = .returned (.bool true) ∧ Below w.heap.size w w' := by
  have A1 : Hid ((K = [] ∧ (a1 = none → c1 = 0)) ∨ ∃ b o, a1 = some ⟨b, o, none⟩ ∧ KeysAt w b o K) := h1
  have A3 : Hid ((T' = [] ∧ (a3 = none → c3 = 0)) ∨ ∃ b o, a3 = some ⟨b, o, none⟩ ∧ RaisedAt w b o T') := h3
  have H32 : Hid (Calls Try.prog 32 #[.string n, .string m, .string s0, .string s1, .bool two, .slice a1 K.length c1, .slice a3 T'.length c3] w fun e w' => RB e ∧ w = w') :=
    zzbytes32 n m s0 s1 two K T' a1 a3 c1 c3 w (h1.imp (·.1) id) (h3.imp (·.1) id) ln lm l0 l1 lk lt
  have O1 : Hid (∀ q ∈ K, ZK.Ok q) := o1
  have O3 : Hid (∀ q ∈ T', ZR.Ok q) := o3
  clear h1 h3 o1 o3
  go_enter Try.func6, Try.ntmps6
  go_wp2_with fail
  refine Calls.mono H32.out ?_
  rintro e _ ⟨⟨b, rfl⟩, rfl⟩
  clear H32
  cases b
  · go_wp2_with fail
    go_ret
    exact ⟨rfl, Below.refl _ _⟩
  rcases Nat.lt_or_ge 4096 K.length with hk | hk
  · go_wp2_with fail
    go_ret
    exact ⟨rfl, Below.refl _ _⟩
  rcases Nat.lt_or_ge 4096 T'.length with ht | ht
  · go_wp2_with fail
    go_ret
    exact ⟨rfl, Below.refl _ _⟩
  go_wp2_with fail
  refine Calls.mono (zzkeysBytes_ri K a1 c1 w (A1.out.imp (·.1) id) hk) ?_
  rintro e w1 ⟨⟨x1, rfl⟩, b1⟩
  go_wp2_with fail
  refine Calls.mono (zzraisedBytes_ri T' a3 c3 w1 (rarg_below (A3.out.imp (·.1) id) b1) ht) ?_
  rintro e w3 ⟨⟨x3, rfl⟩, b3⟩
  have B3 := Below.step b1 b3
  clear b1 b3
  by_cases hz : two = true ∧ (s0.toList == s1.toList) = true
  · obtain ⟨rfl, hz⟩ := hz
    go_wp2_with fail
    all_goals (go_ret; exact ⟨rfl, B3⟩)
  cases two
  · clear hz
    go_wp2_with fail
    any_goals (first | (go_ret; exact ⟨rfl, B3⟩) | skip)
    refine Calls.mono (zzcopyKeys_arg K a1 c1 w3 (A1.out.imp id fun ⟨b, o, h1, h2⟩ => ⟨b, o, h1, h2.below B3⟩) hk) ?_
    rintro e w4 ⟨ka, kc, rfl, hK4, b4⟩
    have B4 := Below.step B3 b4
    clear b4
    go_wp2_with fail
    refine Calls.mono (zzcopyRaised_arg T' a3 c3 w4 (A3.out.imp id fun ⟨b, o, h1, h2⟩ => ⟨b, o, h1, h2.below B4⟩) ht) ?_
    rintro e w7 ⟨ta, tc, rfl, hT7, b7⟩
    have HB7 : Hid (Below w.heap.size w w7) := Below.step B4 b7
    have HK7 : Hid (KArg w7 ka K) := hK4.below b7
    have HT7 : Hid (T' = [] ∨ ∃ b o, ta = some ⟨b, o, none⟩ ∧ RaisedAt w7 b o T') := hT7
    have hw7 : w.heap.size ≤ w7.heap.size := HB7.out.size
    clear b7 hK4 hT7 A1 A3 B3 B4
    go_wp2_with fail
    refine Calls.mono (zzengineFor_any n m s0 s1 false 0 w7) ?_
    rintro e w8 ⟨rfl, b8, E8, L8⟩
    have HE8 : Hid (Eng w8 (w7.heap.size + 4) (w7.heap.size + 1) 1 (ruleCells n m w7.heap.size (sevsOf false s0 s1).length 0) [] [] [] [] []) := E8
    have HL8 : Hid (LevelsAt w8 w7.heap.size (sevsOf false s0 s1)) := L8
    have HB8 : Hid (Below w7.heap.size w7 w8) := b8
    clear E8 L8 b8
    go_wp2_with fail
    refine Calls.mono (zzkeyStates K ka kc w8 (karg_of (HK7.out.below HB8.out)) O1.out hk) ?_
    rintro e w9 ⟨rfl, r9, b9, s9⟩
    have HR9 : Hid (RowsAt w9 w8.heap.size 21 ksCells K) := r9
    have HB9 : Hid (Below w8.heap.size w8 w9) := b9
    have B79 : Hid (Below w7.heap.size w7 w9) := Below.step HB8.out b9
    clear r9 b9
    go_wp2_with fail
    refine Calls.mono (zzraisedTransitions T' ta tc w9 (rarg_below HT7.out B79.out) O3.out ht) ?_
    rintro e w11 ⟨rfl, r11, b11, s11⟩
    have HB811 : Hid (Below w8.heap.size w8 w11) := Below.step HB9.out b11
    have B711 : Hid (Below w7.heap.size w7 w11) := Below.step B79.out b11
    have hR1 : ([⟨n, m, sevsOf false s0 s1⟩] : List RuleD).length ≤ 1000 := by simp
    have hRs : ∀ r ∈ ([⟨n, m, sevsOf false s0 s1⟩] : List RuleD), r.sevs.length ≤ 1000 := by intro r hr; simp at hr; subst hr; exact sevs_len false s0 s1
    have HC16 : Hid (Calls Try.prog 16 #[.pointer (some ⟨w7.heap.size + 9, 0, none⟩), .agg #[.slice (some ⟨w8.heap.size, 0, none⟩) K.length K.length, .slice none 0 0, .slice (some ⟨w9.heap.size, 0, none⟩) T'.length T'.length]] w11 fun e w' =>
        ∃ (ptrs : List Nat) (pb lr bx base : Nat) (l lE : Value), e = .returned (.tuple #[l, lE]) ∧ ptrs.length = K.length ∧ w11.heap.size < base ∧
          Rel3 w11 none (some ⟨w9.heap.size, 0, none⟩) (w7.heap.size + 4) (w7.heap.size + 1) pb lr bx base w8.heap.size w8.heap.size w9.heap.size (ruleCells n m w7.heap.size (sevsOf false s0 s1).length 0) [⟨n, m, sevsOf false s0 s1⟩] K [] T' [] (K.zip ptrs) K K (unmL [⟨n, m, sevsOf false s0 s1⟩] K) w' l ∧ w'.ownsRow base 74 13 lE (endL [⟨n, m, sevsOf false s0 s1⟩] K T').length ((endL [⟨n, m, sevsOf false s0 s1⟩] K T').flatMap (teCells K))) :=
      restore_any [⟨n, m, sevsOf false s0 s1⟩] (HE8.out.below HB811.out) (rulesIn_one (HE8.out.below HB811.out) (HL8.out.below HB811.out) (by omega)) hR1 hRs K [] T' w8.heap.size w8.heap.size w9.heap.size none _ (HR9.out.below b11) (by intro j x hx; simp at hx) r11 (.inl rfl) (.inr rfl) (by have := HB9.out.size; have := b11.size; omega) (by have := HB9.out.size; have := b11.size; omega) s11 hk (by simp) ht
    clear r11 HE8 HL8 HR9 HB811 HB8 HB9 B79 b11
    go_wp2_with fail
    refine Calls.mono HC16.out ?_
    rintro e w12 ⟨ptrs, pb, lr, bx, base, l, lE, rfl, hpl, hbase, rel, hown⟩
    clear HC16
    have B712 : Hid (Below w7.heap.size w7 w12) := B711.out.trans (rel.frame.mono (by omega))
    obtain ⟨ea, ec, rfl, hend⟩ := own_rows (teLen K) (endL [⟨n, m, sevsOf false s0 s1⟩] K T') hown
    have HAC : Hid (AcE (w7.heap.size + 4) (w7.heap.size + 1) (ruleCells n m w7.heap.size (sevsOf false s0 s1).length 0) [⟨n, m, sevsOf false s0 s1⟩] K ptrs (coMap [⟨n, m, sevsOf false s0 s1⟩] K) [] (lsMap []) [] w12) := ⟨rel.eng, rel.rules.low (by
      intro i r hr
      exact ⟨w7.heap.size, by omega, rulesLb rel.eng i r hr⟩), rel.ptr⟩
    have HEN : Hid (endL [⟨n, m, sevsOf false s0 s1⟩] K T' = [] ∨ ∃ g, ea = some ⟨g, 0, none⟩ ∧ RowsAt w12 g 13 (teCells K) (endL [⟨n, m, sevsOf false s0 s1⟩] K T')) := hend
    clear hend rel hown B711
    have H19 : Hid _ := active_any HAC.out hpl hk hR1 hRs (fun D D' => D'.Perm D ∧ SortedL D') (fun D g cap W h1 h2 h3 h4 h5 => sort63 w12 D g cap W h1 h2 h3 h4 h5)
    have HB12 : Hid (Below w.heap.size w w12) := HB7.out.trans (B712.out.mono hw7)
    clear HAC
    go_wp2_with fail
    refine Calls.mono H19.out ?_
    rintro e w13 ⟨ga, ca, Y, D0, D, rfl, hrows, hperm, hrec, ⟨hp, _⟩, hDl, b13⟩
    have HFI : Hid (∀ t : ZR, (∃ a ∈ D, a.rule.toList = t.rule.toList ∧ a.sensor.toList = t.sensor.toList ∧ a.state.toList = [70, 73, 82, 73, 78, 71]) ↔ firT [⟨n, m, sevsOf false s0 s1⟩] K t = true) := by
      intro t
      rw [← firing_iff [⟨n, m, sevsOf false s0 s1⟩] K ptrs hpl Y hperm D0 hrec t]
      constructor
      · rintro ⟨a, ha, h⟩; exact ⟨a, hp.mem_iff.1 ha, h⟩
      · rintro ⟨a, ha, h⟩; exact ⟨a, hp.mem_iff.2 ha, h⟩
    have HEN3 : Hid (endL [⟨n, m, sevsOf false s0 s1⟩] K T' = [] ∨ ∃ g, ea = some ⟨g, 0, none⟩ ∧ RowsAt w13 g 13 (teCells K) (endL [⟨n, m, sevsOf false s0 s1⟩] K T')) := HEN.out.imp id fun ⟨g, h1, h2⟩ => ⟨g, h1, h2.below b13⟩
    have HT13 : Hid (T' = [] ∨ ∃ b o, ta = some ⟨b, o, none⟩ ∧ RaisedAt w13 b o T') := rarg_below (rarg_below HT7.out B712.out) b13
    have HA13 : Hid (RowsAt w13 ga 12 acCells D) := hrows
    have HB13 : Hid (Below w.heap.size w w13) := Below.step HB12.out b13
    have hele : (endL [⟨n, m, sevsOf false s0 s1⟩] K T').length ≤ T'.length := endL_le [⟨n, m, sevsOf false s0 s1⟩] K T'
    clear hrows hperm hrec hp b13 H19 HEN HT7 HK7 HB7 HB12 B712
    go_wp2_with fail
    go_loopw [19, 20] (fun x y wr => ∃ j : Nat, j ≤ T'.length ∧ y = .int .i64 j ∧ x = .int .i64 ((endL [⟨n, m, sevsOf false s0 s1⟩] K (T'.take j)).length : Nat) ∧ Below w13.heap.size w13 wr) (fun _ y _ => T'.length - (intOf y).toNat)
    case atStart => exact ⟨0, Nat.zero_le _, rfl, rfl, Below.refl _ _⟩
    case round =>
      obtain ⟨j, hj, rfl, rfl, hb⟩ := hrel
      by_cases hjl : j < T'.length
      · rcases HT13.out with h0 | ⟨tb, o, rfl, hTT⟩
        · rw [h0] at hjl; simp at hjl
        refine round6 (R := [⟨n, m, sevsOf false s0 s1⟩]) (K := K) (w := w13) _ _ (fun _ _ d _ _ h => by cases d <;> exact h) j tc ca ec ea hjl ht hDl O3.out HFI.out ?_ (HA13.out.below hb) (hTT.below hb) hb _ _ _ _ _ _ _ _ _ _ _ _ _ _ _ _ _ _ _ _ _ _ _ _ _ _ _ _ _ _ _ _ _ _ _ _ _ _ _ _ _ _ _ _ _ _ _ _ _ _ _ _ _ _ _ _ _ _ _ _ _ _ _ _ _ _ _ _ _ _ _ _ _ _ _ _ _ _ _ _ _ _ _ _ _ _ _ _ _ _ _ _ _ _ _ _ _ _ _ _ _ _ _ _ _ _ _ _ _ _ _ _ _ _ _ _ _ _ _ _ _ _ _ _ _ _ _ _ _ _ _ _ _ _ _ _ _ _ _ _ _ _ _ _ _ _ _ _ _ _ _ _ _ _ _ _ _ _ _ _ _ _ _ _ _ _ _ _ _ _ _ _ _ _ _ _ _ _ _ _ _ _ ?_
        · exact HEN3.out.imp id fun ⟨g, h1, h2⟩ => ⟨g, h1, h2.below hb⟩
        intro _ _ _ _ _ _ _ _ _ _ _ _ _ _ _ _ _ _ _ _ _ _ _ _ _ _ _ _ _ _ _ _ _ _ _ _ _ _ _ _ _ _ _ _ _ _ _ _ _ _ _ _ _ _ _ _ _ _ _ _ _ _ _ _ _ _ _ _ _ _ _ _ _ _ _ _ _ _ _ _ _ _ _ _ _ _ _ _ _ _ _ _ _ _ _ _ _ _ _ _ w' hb'
        dsimp only
        go_roundw
        case rel => exact ⟨j + 1, by omega, rfl, rfl, hb'⟩
        case measure => simp [intOf]; omega
      · have hje : j = T'.length := by omega
        subst hje
        rw [List.take_of_length_le (Nat.le_refl _)]
        go_wp2_with fail
        go_ret
        exact ⟨rfl, Below.step HB13.out hb⟩
  · have hz2 : (s0.toList == s1.toList) = false := by simpa using hz
    clear hz
    have hz3 : ¬ s0.toList = s1.toList := by simpa using hz2
    go_wp2_with fail
    any_goals (first | (go_ret; exact ⟨rfl, B3⟩) | skip)
    refine Calls.mono (zzcopyKeys_arg K a1 c1 w3 (A1.out.imp id fun ⟨b, o, h1, h2⟩ => ⟨b, o, h1, h2.below B3⟩) hk) ?_
    rintro e w4 ⟨ka, kc, rfl, hK4, b4⟩
    have B4 := Below.step B3 b4
    clear b4
    go_wp2_with fail
    refine Calls.mono (zzcopyRaised_arg T' a3 c3 w4 (A3.out.imp id fun ⟨b, o, h1, h2⟩ => ⟨b, o, h1, h2.below B4⟩) ht) ?_
    rintro e w7 ⟨ta, tc, rfl, hT7, b7⟩
    have HB7 : Hid (Below w.heap.size w w7) := Below.step B4 b7
    have HK7 : Hid (KArg w7 ka K) := hK4.below b7
    have HT7 : Hid (T' = [] ∨ ∃ b o, ta = some ⟨b, o, none⟩ ∧ RaisedAt w7 b o T') := hT7
    have hw7 : w.heap.size ≤ w7.heap.size := HB7.out.size
    clear b7 hK4 hT7 A1 A3 B3 B4
    go_wp2_with fail
    refine Calls.mono (zzengineFor_any n m s0 s1 true 0 w7) ?_
    rintro e w8 ⟨rfl, b8, E8, L8⟩
    have HE8 : Hid (Eng w8 (w7.heap.size + 4) (w7.heap.size + 1) 1 (ruleCells n m w7.heap.size (sevsOf true s0 s1).length 0) [] [] [] [] []) := E8
    have HL8 : Hid (LevelsAt w8 w7.heap.size (sevsOf true s0 s1)) := L8
    have HB8 : Hid (Below w7.heap.size w7 w8) := b8
    clear E8 L8 b8
    go_wp2_with fail
    refine Calls.mono (zzkeyStates K ka kc w8 (karg_of (HK7.out.below HB8.out)) O1.out hk) ?_
    rintro e w9 ⟨rfl, r9, b9, s9⟩
    have HR9 : Hid (RowsAt w9 w8.heap.size 21 ksCells K) := r9
    have HB9 : Hid (Below w8.heap.size w8 w9) := b9
    have B79 : Hid (Below w7.heap.size w7 w9) := Below.step HB8.out b9
    clear r9 b9
    go_wp2_with fail
    refine Calls.mono (zzraisedTransitions T' ta tc w9 (rarg_below HT7.out B79.out) O3.out ht) ?_
    rintro e w11 ⟨rfl, r11, b11, s11⟩
    have HB811 : Hid (Below w8.heap.size w8 w11) := Below.step HB9.out b11
    have B711 : Hid (Below w7.heap.size w7 w11) := Below.step B79.out b11
    have hR1 : ([⟨n, m, sevsOf true s0 s1⟩] : List RuleD).length ≤ 1000 := by simp
    have hRs : ∀ r ∈ ([⟨n, m, sevsOf true s0 s1⟩] : List RuleD), r.sevs.length ≤ 1000 := by intro r hr; simp at hr; subst hr; exact sevs_len true s0 s1
    have HC16 : Hid (Calls Try.prog 16 #[.pointer (some ⟨w7.heap.size + 9, 0, none⟩), .agg #[.slice (some ⟨w8.heap.size, 0, none⟩) K.length K.length, .slice none 0 0, .slice (some ⟨w9.heap.size, 0, none⟩) T'.length T'.length]] w11 fun e w' =>
        ∃ (ptrs : List Nat) (pb lr bx base : Nat) (l lE : Value), e = .returned (.tuple #[l, lE]) ∧ ptrs.length = K.length ∧ w11.heap.size < base ∧
          Rel3 w11 none (some ⟨w9.heap.size, 0, none⟩) (w7.heap.size + 4) (w7.heap.size + 1) pb lr bx base w8.heap.size w8.heap.size w9.heap.size (ruleCells n m w7.heap.size (sevsOf true s0 s1).length 0) [⟨n, m, sevsOf true s0 s1⟩] K [] T' [] (K.zip ptrs) K K (unmL [⟨n, m, sevsOf true s0 s1⟩] K) w' l ∧ w'.ownsRow base 74 13 lE (endL [⟨n, m, sevsOf true s0 s1⟩] K T').length ((endL [⟨n, m, sevsOf true s0 s1⟩] K T').flatMap (teCells K))) :=
      restore_any [⟨n, m, sevsOf true s0 s1⟩] (HE8.out.below HB811.out) (rulesIn_one (HE8.out.below HB811.out) (HL8.out.below HB811.out) (by omega)) hR1 hRs K [] T' w8.heap.size w8.heap.size w9.heap.size none _ (HR9.out.below b11) (by intro j x hx; simp at hx) r11 (.inl rfl) (.inr rfl) (by have := HB9.out.size; have := b11.size; omega) (by have := HB9.out.size; have := b11.size; omega) s11 hk (by simp) ht
    clear r11 HE8 HL8 HR9 HB811 HB8 HB9 B79 b11
    go_wp2_with fail
    refine Calls.mono HC16.out ?_
    rintro e w12 ⟨ptrs, pb, lr, bx, base, l, lE, rfl, hpl, hbase, rel, hown⟩
    clear HC16
    have B712 : Hid (Below w7.heap.size w7 w12) := B711.out.trans (rel.frame.mono (by omega))
    obtain ⟨ea, ec, rfl, hend⟩ := own_rows (teLen K) (endL [⟨n, m, sevsOf true s0 s1⟩] K T') hown
    have HAC : Hid (AcE (w7.heap.size + 4) (w7.heap.size + 1) (ruleCells n m w7.heap.size (sevsOf true s0 s1).length 0) [⟨n, m, sevsOf true s0 s1⟩] K ptrs (coMap [⟨n, m, sevsOf true s0 s1⟩] K) [] (lsMap []) [] w12) := ⟨rel.eng, rel.rules.low (by
      intro i r hr
      exact ⟨w7.heap.size, by omega, rulesLb rel.eng i r hr⟩), rel.ptr⟩
    have HEN : Hid (endL [⟨n, m, sevsOf true s0 s1⟩] K T' = [] ∨ ∃ g, ea = some ⟨g, 0, none⟩ ∧ RowsAt w12 g 13 (teCells K) (endL [⟨n, m, sevsOf true s0 s1⟩] K T')) := hend
    clear hend rel hown B711
    have H19 : Hid _ := active_any HAC.out hpl hk hR1 hRs (fun D D' => D'.Perm D ∧ SortedL D') (fun D g cap W h1 h2 h3 h4 h5 => sort63 w12 D g cap W h1 h2 h3 h4 h5)
    have HB12 : Hid (Below w.heap.size w w12) := HB7.out.trans (B712.out.mono hw7)
    clear HAC
    go_wp2_with fail
    refine Calls.mono H19.out ?_
    rintro e w13 ⟨ga, ca, Y, D0, D, rfl, hrows, hperm, hrec, ⟨hp, _⟩, hDl, b13⟩
    have HFI : Hid (∀ t : ZR, (∃ a ∈ D, a.rule.toList = t.rule.toList ∧ a.sensor.toList = t.sensor.toList ∧ a.state.toList = [70, 73, 82, 73, 78, 71]) ↔ firT [⟨n, m, sevsOf true s0 s1⟩] K t = true) := by
      intro t
      rw [← firing_iff [⟨n, m, sevsOf true s0 s1⟩] K ptrs hpl Y hperm D0 hrec t]
      constructor
      · rintro ⟨a, ha, h⟩; exact ⟨a, hp.mem_iff.1 ha, h⟩
      · rintro ⟨a, ha, h⟩; exact ⟨a, hp.mem_iff.2 ha, h⟩
    have HEN3 : Hid (endL [⟨n, m, sevsOf true s0 s1⟩] K T' = [] ∨ ∃ g, ea = some ⟨g, 0, none⟩ ∧ RowsAt w13 g 13 (teCells K) (endL [⟨n, m, sevsOf true s0 s1⟩] K T')) := HEN.out.imp id fun ⟨g, h1, h2⟩ => ⟨g, h1, h2.below b13⟩
    have HT13 : Hid (T' = [] ∨ ∃ b o, ta = some ⟨b, o, none⟩ ∧ RaisedAt w13 b o T') := rarg_below (rarg_below HT7.out B712.out) b13
    have HA13 : Hid (RowsAt w13 ga 12 acCells D) := hrows
    have HB13 : Hid (Below w.heap.size w w13) := Below.step HB12.out b13
    have hele : (endL [⟨n, m, sevsOf true s0 s1⟩] K T').length ≤ T'.length := endL_le [⟨n, m, sevsOf true s0 s1⟩] K T'
    clear hrows hperm hrec hp b13 H19 HEN HT7 HK7 HB7 HB12 B712
    go_wp2_with fail
    go_loopw [19, 20] (fun x y wr => ∃ j : Nat, j ≤ T'.length ∧ y = .int .i64 j ∧ x = .int .i64 ((endL [⟨n, m, sevsOf true s0 s1⟩] K (T'.take j)).length : Nat) ∧ Below w13.heap.size w13 wr) (fun _ y _ => T'.length - (intOf y).toNat)
    case atStart => exact ⟨0, Nat.zero_le _, rfl, rfl, Below.refl _ _⟩
    case round =>
      obtain ⟨j, hj, rfl, rfl, hb⟩ := hrel
      by_cases hjl : j < T'.length
      · rcases HT13.out with h0 | ⟨tb, o, rfl, hTT⟩
        · rw [h0] at hjl; simp at hjl
        refine round6 (R := [⟨n, m, sevsOf true s0 s1⟩]) (K := K) (w := w13) _ _ (fun _ _ d _ _ h => by cases d <;> exact h) j tc ca ec ea hjl ht hDl O3.out HFI.out ?_ (HA13.out.below hb) (hTT.below hb) hb _ _ _ _ _ _ _ _ _ _ _ _ _ _ _ _ _ _ _ _ _ _ _ _ _ _ _ _ _ _ _ _ _ _ _ _ _ _ _ _ _ _ _ _ _ _ _ _ _ _ _ _ _ _ _ _ _ _ _ _ _ _ _ _ _ _ _ _ _ _ _ _ _ _ _ _ _ _ _ _ _ _ _ _ _ _ _ _ _ _ _ _ _ _ _ _ _ _ _ _ _ _ _ _ _ _ _ _ _ _ _ _ _ _ _ _ _ _ _ _ _ _ _ _ _ _ _ _ _ _ _ _ _ _ _ _ _ _ _ _ _ _ _ _ _ _ _ _ _ _ _ _ _ _ _ _ _ _ _ _ _ _ _ _ _ _ _ _ _ _ _ _ _ _ _ _ _ _ _ _ _ _ ?_
        · exact HEN3.out.imp id fun ⟨g, h1, h2⟩ => ⟨g, h1, h2.below hb⟩
        intro _ _ _ _ _ _ _ _ _ _ _ _ _ _ _ _ _ _ _ _ _ _ _ _ _ _ _ _ _ _ _ _ _ _ _ _ _ _ _ _ _ _ _ _ _ _ _ _ _ _ _ _ _ _ _ _ _ _ _ _ _ _ _ _ _ _ _ _ _ _ _ _ _ _ _ _ _ _ _ _ _ _ _ _ _ _ _ _ _ _ _ _ _ _ _ _ _ _ _ _ w' hb'
        dsimp only
        go_roundw
        case rel => exact ⟨j + 1, by omega, rfl, rfl, hb'⟩
        case measure => simp [intOf]; omega
      · have hje : j = T'.length := by omega
        subst hje
        rw [List.take_of_length_le (Nat.le_refl _)]
        go_wp2_with fail
        go_ret
        exact ⟨rfl, Below.step HB13.out hb⟩
end Go.Proofs.Qxb6605676a.Kz
