import Derived.Test.Qxb6605676aKz37
import Derived.Test.Qxb6605676aKz35

namespace Go.Proofs.Qxb6605676a.Kz
set_option linter.unusedVariables false
set_option linter.unusedSimpArgs false
open Go.RowKit Go.Proofs.Qxb6605676a.Mp Go.Proofs.Qxb6605676a.Tm Go.Proofs.Qxb6605676a.En

theorem sevs_len (two : Bool) (s0 s1 : ByteArray) : (sevsOf two s0 s1).length ≤ 1000 := by unfold sevsOf; split <;> simp

set_option maxHeartbeats 8000000 in
set_option maxRecDepth 100000 in
theorem law5 (n m s0 s1 : ByteArray) (two : Bool) (K : List ZK) (S : List ZS) (T' : List ZR) (a1 a2 a3 : Option Addr) (c1 c2 c3 : Nat) (w : World)
    (h1 : (K = [] ∧ (a1 = none → c1 = 0)) ∨ ∃ b o, a1 = some ⟨b, o, none⟩ ∧ KeysAt w b o K) (h2 : (S = [] ∧ (a2 = none → c2 = 0)) ∨ ∃ b o, a2 = some ⟨b, o, none⟩ ∧ SeriesAt w b o S) (h3 : (T' = [] ∧ (a3 = none → c3 = 0)) ∨ ∃ b o, a3 = some ⟨b, o, none⟩ ∧ RaisedAt w b o T')
    (o1 : ∀ q ∈ K, ZK.Ok q) (o2 : ∀ q ∈ S, I64 q.last) (o3 : ∀ q ∈ T', ZR.Ok q)
    (ln : n.size < 2 ^ 63) (lm : m.size < 2 ^ 63) (l0 : s0.size < 2 ^ 63) (l1 : s1.size < 2 ^ 63) (lk : K.length < 2 ^ 63) (ls : S.length < 2 ^ 63) (lt : T'.length < 2 ^ 63) :
    Calls Try.prog 5 #[.string n, .string m, .string s0, .string s1, .bool two, .slice a1 K.length c1, .slice a2 S.length c2, .slice a3 T'.length c3] w fun e w' => e = .returned (.bool true) ∧ Below w.heap.size w w' := by
  have A1 : Hid ((K = [] ∧ (a1 = none → c1 = 0)) ∨ ∃ b o, a1 = some ⟨b, o, none⟩ ∧ KeysAt w b o K) := h1
  have A2 : Hid ((S = [] ∧ (a2 = none → c2 = 0)) ∨ ∃ b o, a2 = some ⟨b, o, none⟩ ∧ SeriesAt w b o S) := h2
  have A3 : Hid ((T' = [] ∧ (a3 = none → c3 = 0)) ∨ ∃ b o, a3 = some ⟨b, o, none⟩ ∧ RaisedAt w b o T') := h3
  have H22 : Hid (Calls Try.prog 22 #[.string n, .string m, .string s0, .string s1, .bool two, .slice a1 K.length c1, .slice a2 S.length c2, .slice a3 T'.length c3] w fun e w' => RB e ∧ w = w') :=
    zzbytes22 n m s0 s1 two K S T' a1 a2 a3 c1 c2 c3 w (h1.imp (·.1) id) (h2.imp (·.1) id) (h3.imp (·.1) id) ln lm l0 l1 lk ls lt
  have O1 : Hid (∀ q ∈ K, ZK.Ok q) := o1
  have O2 : Hid (∀ q ∈ S, I64 q.last) := o2
  have O3 : Hid (∀ q ∈ T', ZR.Ok q) := o3
  clear h1 h2 h3 o1 o2 o3
  go_enter Try.func5, Try.ntmps5
  go_wp2_with fail
  refine Calls.mono H22.out ?_
  rintro e _ ⟨⟨b, rfl⟩, rfl⟩
  clear H22
  cases b
  · go_wp2_with fail
    go_ret
    exact ⟨rfl, Below.refl _ _⟩
  rcases Nat.lt_or_ge 4096 K.length with hk | hk
  · go_wp2_with fail
    go_ret
    exact ⟨rfl, Below.refl _ _⟩
  rcases Nat.lt_or_ge 4096 S.length with hs | hs
  · go_wp2_with fail
    go_ret
    exact ⟨rfl, Below.refl _ _⟩
  rcases Nat.lt_or_ge 4096 T'.length with ht | ht
  · go_wp2_with fail
    go_ret
    exact ⟨rfl, Below.refl _ _⟩
  go_wp2_with fail
  refine Calls.mono (zzkeysBytes_ri K a1 c1 w (A1.out.imp (·.1) id) hk) ?_
  rintro e w1 ⟨⟨x1, rfl⟩, b1⟩
  go_wp2_with fail
  refine Calls.mono (zzseriesBytes_ri S a2 c2 w1 (sarg_below (A2.out.imp (·.1) id) b1) hs) ?_
  rintro e w2 ⟨⟨x2, rfl⟩, b2⟩
  have B2 := Below.step b1 b2
  go_wp2_with fail
  refine Calls.mono (zzraisedBytes_ri T' a3 c3 w2 (rarg_below (A3.out.imp (·.1) id) B2) ht) ?_
  rintro e w3 ⟨⟨x3, rfl⟩, b3⟩
  have B3 := Below.step B2 b3
  clear b1 b2 b3 B2
  by_cases hz : two = true ∧ (s0.toList == s1.toList) = true
  · obtain ⟨rfl, hz⟩ := hz
    go_wp2_with fail
    all_goals (go_ret; exact ⟨rfl, B3⟩)
  cases two
  · clear hz
    go_wp2_with fail
    any_goals (first | (go_ret; exact ⟨rfl, B3⟩) | skip)
    refine Calls.mono (zzcopyKeys_arg K a1 c1 w3 (A1.out.imp id fun ⟨b, o, h1, h2⟩ => ⟨b, o, h1, h2.below B3⟩) hk) ?_
    rintro e w4 ⟨ka, kc, rfl, hK4, b4⟩
    have B4 := Below.step B3 b4
    clear b4
    go_wp2_with fail
    refine Calls.mono (zzcopySeries_arg S a2 c2 w4 (A2.out.imp id fun ⟨b, o, h1, h2⟩ => ⟨b, o, h1, h2.below B4⟩) hs) ?_
    rintro e w5 ⟨sa, sc, rfl, hS5, b5⟩
    have B5 := Below.step B4 b5
    have HK5 : Hid (KArg w5 ka K) := hK4.below b5
    clear b5 hK4
    go_wp2_with fail
    refine Calls.mono (zzcopyRaised_arg T' a3 c3 w5 (A3.out.imp id fun ⟨b, o, h1, h2⟩ => ⟨b, o, h1, h2.below B5⟩) ht) ?_
    rintro e w6 ⟨ta, tc, rfl, hT6, b6⟩
    have B6 := Below.step B5 b6
    have HK6 : Hid (KArg w6 ka K) := HK5.out.below b6
    have HS6 : Hid (S = [] ∨ ∃ b o, sa = some ⟨b, o, none⟩ ∧ SeriesAt w6 b o S) := sarg_below hS5 b6
    have HT6 : Hid (T' = [] ∨ ∃ b o, ta = some ⟨b, o, none⟩ ∧ RaisedAt w6 b o T') := hT6
    clear b6 HK5 hS5 hT6 A1 A2 A3 B3 B4 B5
    go_wp2_with fail
    refine Calls.mono (zzoneRule_any n m s0 s1 false w6) ?_
    rintro e w7 ⟨rfl, b7, s7, hR7⟩
    have HB7 : Hid (Below w.heap.size w w7) := Below.step B6 b7
    have HK7 : Hid (KArg w7 ka K) := HK6.out.below b7
    have HS7 : Hid (S = [] ∨ ∃ b o, sa = some ⟨b, o, none⟩ ∧ SeriesAt w7 b o S) := sarg_below HS6.out b7
    have HT7 : Hid (T' = [] ∨ ∃ b o, ta = some ⟨b, o, none⟩ ∧ RaisedAt w7 b o T') := rarg_below HT6.out b7
    have HR7 : Hid (RulesAt w7 (w6.heap.size + 1) [⟨n, m, sevsOf false s0 s1⟩]) := hR7
    have hw7 : w.heap.size ≤ w7.heap.size := HB7.out.size
    clear b7 hR7 B6 HK6 HS6 HT6 s7
    generalize w6.heap.size + 1 = rz at *
    go_wp2_with fail
    refine Calls.mono (zzengineFor_any n m s0 s1 false 0 w7) ?_
    rintro e w8 ⟨rfl, b8, E8, L8⟩
    have HE8 : Hid (Eng w8 (w7.heap.size + 4) (w7.heap.size + 1) 1 (ruleCells n m w7.heap.size (sevsOf false s0 s1).length 0) [] [] [] [] []) := E8
    have HL8 : Hid (LevelsAt w8 w7.heap.size (sevsOf false s0 s1)) := L8
    have HB8 : Hid (Below w7.heap.size w7 w8) := b8
    clear E8 L8 b8
    go_wp2_with fail
    refine Calls.mono (zzkeyStates K ka kc w8 (karg_of (HK7.out.below HB8.out)) O1.out hk) ?_
    rintro e w9 ⟨rfl, r9, b9, s9⟩
    have HR9 : Hid (RowsAt w9 w8.heap.size 21 ksCells K) := r9
    have HB9 : Hid (Below w8.heap.size w8 w9) := b9
    have B79 : Hid (Below w7.heap.size w7 w9) := Below.step HB8.out b9
    clear r9 b9
    go_wp2_with fail
    refine Calls.mono (zzseriesStates S sa sc w9 (sarg_below HS7.out B79.out) O2.out hs) ?_
    rintro e w10 ⟨rfl, r10, b10, s10⟩
    have HR10 : Hid (RowsAt w10 w9.heap.size 5 ssCells S) := r10
    have HB10 : Hid (Below w9.heap.size w9 w10) := b10
    have B710 : Hid (Below w7.heap.size w7 w10) := Below.step B79.out b10
    clear r10 b10
    go_wp2_with fail
    refine Calls.mono (zzraisedTransitions T' ta tc w10 (rarg_below HT7.out B710.out) O3.out ht) ?_
    rintro e w11 ⟨rfl, r11, b11, s11⟩
    have HB811 : Hid (Below w8.heap.size w8 w11) := Below.step (Below.step HB9.out HB10.out) b11
    have HB911 : Hid (Below w9.heap.size w9 w11) := Below.step HB10.out b11
    have B711 : Hid (Below w7.heap.size w7 w11) := Below.step B710.out b11
    have HC16 : Hid (Calls Try.prog 16 #[.pointer (some ⟨w7.heap.size + 9, 0, none⟩), .agg #[.slice (some ⟨w8.heap.size, 0, none⟩) K.length K.length, .slice (some ⟨w9.heap.size, 0, none⟩) S.length S.length, .slice (some ⟨w10.heap.size, 0, none⟩) T'.length T'.length]] w11 fun e w' =>
        ∃ (ptrs : List Nat) (pb lr bx base : Nat) (l lE : Value), e = .returned (.tuple #[l, lE]) ∧ ptrs.length = K.length ∧ w11.heap.size < base ∧
          Rel3 w11 (some ⟨w9.heap.size, 0, none⟩) (some ⟨w10.heap.size, 0, none⟩) (w7.heap.size + 4) (w7.heap.size + 1) pb lr bx base w8.heap.size w9.heap.size w10.heap.size (ruleCells n m w7.heap.size (sevsOf false s0 s1).length 0) [⟨n, m, sevsOf false s0 s1⟩] K S T' S (K.zip ptrs) K K (unmL [⟨n, m, sevsOf false s0 s1⟩] K) w' l ∧ w'.ownsRow base 74 13 lE (endL [⟨n, m, sevsOf false s0 s1⟩] K T').length ((endL [⟨n, m, sevsOf false s0 s1⟩] K T').flatMap (teCells K))) :=
      restore_any [⟨n, m, sevsOf false s0 s1⟩] (HE8.out.below HB811.out) (rulesIn_one (HE8.out.below HB811.out) (HL8.out.below HB811.out) (by omega)) (by simp) (by intro r hr; simp at hr; subst hr; first | exact sevs_len false s0 s1 | exact sevs_len true s0 s1) K S T' w8.heap.size w9.heap.size w10.heap.size _ _ (HR9.out.below HB911.out) (HR10.out.below b11) r11 (.inr rfl) (.inr rfl) (by have := HB911.out.size; omega) (by have := b11.size; omega) s11 hk hs ht
    clear r11 HE8 HL8 HR9 HR10 HB811 HB911 HB8 HB9 HB10 B79 B710 b11
    go_wp2_with fail
    refine Calls.mono HC16.out ?_
    rintro e w12 ⟨ptrs, pb, lr, bx, base, l, lE, rfl, hpl, hbase, rel, hown⟩
    clear HC16
    have B712 : Hid (Below w7.heap.size w7 w12) := B711.out.trans (rel.frame.mono (by omega))
    obtain ⟨la, lc, rfl, hleft⟩ := own_rows lfLen (unmL [⟨n, m, sevsOf false s0 s1⟩] K) rel.left
    obtain ⟨ea, ec, rfl, hend⟩ := own_rows (teLen K) (endL [⟨n, m, sevsOf false s0 s1⟩] K T') hown
    have HENG : Hid (Eng w12 (w7.heap.size + 4) (w7.heap.size + 1) 1 (ruleCells n m w7.heap.size (sevsOf false s0 s1).length 0) (alMap [⟨n, m, sevsOf false s0 s1⟩] (K.zip ptrs)) (coMap [⟨n, m, sevsOf false s0 s1⟩] K) [] (lsMap S) []) := rel.eng
    have HPTR : Hid (∀ q ab, (q, ab) ∈ K.zip ptrs → (keyA [⟨n, m, sevsOf false s0 s1⟩] q).isSome = true → w12.heap[ab]? = some (Obj.cells (alCells q) 136)) := rel.ptr
    have HLF : Hid (unmL [⟨n, m, sevsOf false s0 s1⟩] K = [] ∨ ∃ g, la = some ⟨g, 0, none⟩ ∧ RowsAt w12 g 21 lfCells (unmL [⟨n, m, sevsOf false s0 s1⟩] K)) := hleft
    have HEN : Hid (endL [⟨n, m, sevsOf false s0 s1⟩] K T' = [] ∨ ∃ g, ea = some ⟨g, 0, none⟩ ∧ RowsAt w12 g 13 (teCells K) (endL [⟨n, m, sevsOf false s0 s1⟩] K T')) := hend
    clear hleft hend rel hown B711
    have hR1 : ([⟨n, m, sevsOf false s0 s1⟩] : List RuleD).length ≤ 1000 := by simp
    have hRs : ∀ r ∈ ([⟨n, m, sevsOf false s0 s1⟩] : List RuleD), r.sevs.length ≤ 1000 := by intro r hr; simp at hr; subst hr; first | exact sevs_len false s0 s1 | exact sevs_len true s0 s1
    have H29 : Hid (Calls Try.prog 29 #[.slice (some ⟨rz, 0, none⟩) 1 1, .slice ka K.length kc, .slice la (unmL [⟨n, m, sevsOf false s0 s1⟩] K).length lc] w12 fun e w' => e = .returned (.bool true) ∧ Below w12.heap.size w12 w') :=
      zzleftAgrees_any [⟨n, m, sevsOf false s0 s1⟩] K rz ka la kc lc w12 (HR7.out.below B712.out) hR1 hRs (karg_of (HK7.out.below B712.out)) hk HLF.out
    have H30 : Hid (∀ W, Below w12.heap.size w12 W → Calls Try.prog 30 #[.slice (some ⟨rz, 0, none⟩) 1 1, .slice ka K.length kc, .slice ta T'.length tc, .slice ea (endL [⟨n, m, sevsOf false s0 s1⟩] K T').length ec] W fun e w' => e = .returned (.bool true) ∧ Below W.heap.size W w') := fun W hW =>
      zzendedAgrees_any [⟨n, m, sevsOf false s0 s1⟩] K T' rz ka ta ea kc tc ec W ((HR7.out.below B712.out).below hW) hR1 hRs ((HK7.out.below B712.out).below hW) hk (rarg_below (rarg_below HT7.out B712.out) hW) ht O1.out O3.out (HEN.out.imp id fun ⟨g, h1, h2⟩ => ⟨g, h1, h2.below hW⟩)
    have H31 : Hid (∀ W, Below w12.heap.size w12 W → Calls Try.prog 31 #[.slice (some ⟨rz, 0, none⟩) 1 1, .slice ka K.length kc, .slice sa S.length sc, .pointer (some ⟨w7.heap.size + 9, 0, none⟩)] W fun e w' => e = .returned (.bool true) ∧ Below W.heap.size W w') := fun W hW =>
      zzengineAgrees_any (R := [⟨n, m, sevsOf false s0 s1⟩]) (mb := w7.heap.size + 4) (HENG.out.below hW) (fun q ab hq hk' => by
        have := HPTR.out q ab hq hk'
        rw [hW.block ab (Array.getElem?_eq_some_iff.1 this).1]
        exact this) hpl ka sa kc sc ((HR7.out.below B712.out).below hW) hR1 hRs ((HK7.out.below B712.out).below hW) hk (sarg_below (sarg_below HS7.out B712.out) hW) hs O1.out O2.out
    have HB12 : Hid (Below w.heap.size w w12) := HB7.out.trans (B712.out.mono hw7)
    clear HENG HPTR HLF HEN hR1 hRs
    go_wp2_with fail
    refine Calls.mono H29.out ?_
    rintro e w13 ⟨rfl, b13⟩
    go_wp2_with fail
    refine Calls.mono (H30.out _ b13) ?_
    rintro e w14 ⟨rfl, b14⟩
    have b14' := Below.step b13 b14
    go_wp2_with fail
    refine Calls.mono (H31.out _ b14') ?_
    rintro e w15 ⟨rfl, b15⟩
    have b15' := Below.step b14' b15
    clear H29 H30 H31
    go_wp2_with fail
    go_ret
    exact ⟨rfl, Below.step HB12.out b15'⟩
  · have hz2 : (s0.toList == s1.toList) = false := by simpa using hz
    clear hz
    have hz3 : ¬ s0.toList = s1.toList := by simpa using hz2
    go_wp2_with fail
    any_goals (first | (go_ret; exact ⟨rfl, B3⟩) | skip)
    refine Calls.mono (zzcopyKeys_arg K a1 c1 w3 (A1.out.imp id fun ⟨b, o, h1, h2⟩ => ⟨b, o, h1, h2.below B3⟩) hk) ?_
    rintro e w4 ⟨ka, kc, rfl, hK4, b4⟩
    have B4 := Below.step B3 b4
    clear b4
    go_wp2_with fail
    refine Calls.mono (zzcopySeries_arg S a2 c2 w4 (A2.out.imp id fun ⟨b, o, h1, h2⟩ => ⟨b, o, h1, h2.below B4⟩) hs) ?_
    rintro e w5 ⟨sa, sc, rfl, hS5, b5⟩
    have B5 := Below.step B4 b5
    have HK5 : Hid (KArg w5 ka K) := hK4.below b5
    clear b5 hK4
    go_wp2_with fail
    refine Calls.mono (zzcopyRaised_arg T' a3 c3 w5 (A3.out.imp id fun ⟨b, o, h1, h2⟩ => ⟨b, o, h1, h2.below B5⟩) ht) ?_
    rintro e w6 ⟨ta, tc, rfl, hT6, b6⟩
    have B6 := Below.step B5 b6
    have HK6 : Hid (KArg w6 ka K) := HK5.out.below b6
    have HS6 : Hid (S = [] ∨ ∃ b o, sa = some ⟨b, o, none⟩ ∧ SeriesAt w6 b o S) := sarg_below hS5 b6
    have HT6 : Hid (T' = [] ∨ ∃ b o, ta = some ⟨b, o, none⟩ ∧ RaisedAt w6 b o T') := hT6
    clear b6 HK5 hS5 hT6 A1 A2 A3 B3 B4 B5
    go_wp2_with fail
    refine Calls.mono (zzoneRule_any n m s0 s1 true w6) ?_
    rintro e w7 ⟨rfl, b7, s7, hR7⟩
    have HB7 : Hid (Below w.heap.size w w7) := Below.step B6 b7
    have HK7 : Hid (KArg w7 ka K) := HK6.out.below b7
    have HS7 : Hid (S = [] ∨ ∃ b o, sa = some ⟨b, o, none⟩ ∧ SeriesAt w7 b o S) := sarg_below HS6.out b7
    have HT7 : Hid (T' = [] ∨ ∃ b o, ta = some ⟨b, o, none⟩ ∧ RaisedAt w7 b o T') := rarg_below HT6.out b7
    have HR7 : Hid (RulesAt w7 (w6.heap.size + 1) [⟨n, m, sevsOf true s0 s1⟩]) := hR7
    have hw7 : w.heap.size ≤ w7.heap.size := HB7.out.size
    clear b7 hR7 B6 HK6 HS6 HT6 s7
    generalize w6.heap.size + 1 = rz at *
    go_wp2_with fail
    refine Calls.mono (zzengineFor_any n m s0 s1 true 0 w7) ?_
    rintro e w8 ⟨rfl, b8, E8, L8⟩
    have HE8 : Hid (Eng w8 (w7.heap.size + 4) (w7.heap.size + 1) 1 (ruleCells n m w7.heap.size (sevsOf true s0 s1).length 0) [] [] [] [] []) := E8
    have HL8 : Hid (LevelsAt w8 w7.heap.size (sevsOf true s0 s1)) := L8
    have HB8 : Hid (Below w7.heap.size w7 w8) := b8
    clear E8 L8 b8
    go_wp2_with fail
    refine Calls.mono (zzkeyStates K ka kc w8 (karg_of (HK7.out.below HB8.out)) O1.out hk) ?_
    rintro e w9 ⟨rfl, r9, b9, s9⟩
    have HR9 : Hid (RowsAt w9 w8.heap.size 21 ksCells K) := r9
    have HB9 : Hid (Below w8.heap.size w8 w9) := b9
    have B79 : Hid (Below w7.heap.size w7 w9) := Below.step HB8.out b9
    clear r9 b9
    go_wp2_with fail
    refine Calls.mono (zzseriesStates S sa sc w9 (sarg_below HS7.out B79.out) O2.out hs) ?_
    rintro e w10 ⟨rfl, r10, b10, s10⟩
    have HR10 : Hid (RowsAt w10 w9.heap.size 5 ssCells S) := r10
    have HB10 : Hid (Below w9.heap.size w9 w10) := b10
    have B710 : Hid (Below w7.heap.size w7 w10) := Below.step B79.out b10
    clear r10 b10
    go_wp2_with fail
    refine Calls.mono (zzraisedTransitions T' ta tc w10 (rarg_below HT7.out B710.out) O3.out ht) ?_
    rintro e w11 ⟨rfl, r11, b11, s11⟩
    have HB811 : Hid (Below w8.heap.size w8 w11) := Below.step (Below.step HB9.out HB10.out) b11
    have HB911 : Hid (Below w9.heap.size w9 w11) := Below.step HB10.out b11
    have B711 : Hid (Below w7.heap.size w7 w11) := Below.step B710.out b11
    have HC16 : Hid (Calls Try.prog 16 #[.pointer (some ⟨w7.heap.size + 9, 0, none⟩), .agg #[.slice (some ⟨w8.heap.size, 0, none⟩) K.length K.length, .slice (some ⟨w9.heap.size, 0, none⟩) S.length S.length, .slice (some ⟨w10.heap.size, 0, none⟩) T'.length T'.length]] w11 fun e w' =>
        ∃ (ptrs : List Nat) (pb lr bx base : Nat) (l lE : Value), e = .returned (.tuple #[l, lE]) ∧ ptrs.length = K.length ∧ w11.heap.size < base ∧
          Rel3 w11 (some ⟨w9.heap.size, 0, none⟩) (some ⟨w10.heap.size, 0, none⟩) (w7.heap.size + 4) (w7.heap.size + 1) pb lr bx base w8.heap.size w9.heap.size w10.heap.size (ruleCells n m w7.heap.size (sevsOf true s0 s1).length 0) [⟨n, m, sevsOf true s0 s1⟩] K S T' S (K.zip ptrs) K K (unmL [⟨n, m, sevsOf true s0 s1⟩] K) w' l ∧ w'.ownsRow base 74 13 lE (endL [⟨n, m, sevsOf true s0 s1⟩] K T').length ((endL [⟨n, m, sevsOf true s0 s1⟩] K T').flatMap (teCells K))) :=
      restore_any [⟨n, m, sevsOf true s0 s1⟩] (HE8.out.below HB811.out) (rulesIn_one (HE8.out.below HB811.out) (HL8.out.below HB811.out) (by omega)) (by simp) (by intro r hr; simp at hr; subst hr; first | exact sevs_len false s0 s1 | exact sevs_len true s0 s1) K S T' w8.heap.size w9.heap.size w10.heap.size _ _ (HR9.out.below HB911.out) (HR10.out.below b11) r11 (.inr rfl) (.inr rfl) (by have := HB911.out.size; omega) (by have := b11.size; omega) s11 hk hs ht
    clear r11 HE8 HL8 HR9 HR10 HB811 HB911 HB8 HB9 HB10 B79 B710 b11
    go_wp2_with fail
    refine Calls.mono HC16.out ?_
    rintro e w12 ⟨ptrs, pb, lr, bx, base, l, lE, rfl, hpl, hbase, rel, hown⟩
    clear HC16
    have B712 : Hid (Below w7.heap.size w7 w12) := B711.out.trans (rel.frame.mono (by omega))
    obtain ⟨la, lc, rfl, hleft⟩ := own_rows lfLen (unmL [⟨n, m, sevsOf true s0 s1⟩] K) rel.left
    obtain ⟨ea, ec, rfl, hend⟩ := own_rows (teLen K) (endL [⟨n, m, sevsOf true s0 s1⟩] K T') hown
    have HENG : Hid (Eng w12 (w7.heap.size + 4) (w7.heap.size + 1) 1 (ruleCells n m w7.heap.size (sevsOf true s0 s1).length 0) (alMap [⟨n, m, sevsOf true s0 s1⟩] (K.zip ptrs)) (coMap [⟨n, m, sevsOf true s0 s1⟩] K) [] (lsMap S) []) := rel.eng
    have HPTR : Hid (∀ q ab, (q, ab) ∈ K.zip ptrs → (keyA [⟨n, m, sevsOf true s0 s1⟩] q).isSome = true → w12.heap[ab]? = some (Obj.cells (alCells q) 136)) := rel.ptr
    have HLF : Hid (unmL [⟨n, m, sevsOf true s0 s1⟩] K = [] ∨ ∃ g, la = some ⟨g, 0, none⟩ ∧ RowsAt w12 g 21 lfCells (unmL [⟨n, m, sevsOf true s0 s1⟩] K)) := hleft
    have HEN : Hid (endL [⟨n, m, sevsOf true s0 s1⟩] K T' = [] ∨ ∃ g, ea = some ⟨g, 0, none⟩ ∧ RowsAt w12 g 13 (teCells K) (endL [⟨n, m, sevsOf true s0 s1⟩] K T')) := hend
    clear hleft hend rel hown B711
    have hR1 : ([⟨n, m, sevsOf true s0 s1⟩] : List RuleD).length ≤ 1000 := by simp
    have hRs : ∀ r ∈ ([⟨n, m, sevsOf true s0 s1⟩] : List RuleD), r.sevs.length ≤ 1000 := by intro r hr; simp at hr; subst hr; first | exact sevs_len false s0 s1 | exact sevs_len true s0 s1
    have H29 : Hid (Calls Try.prog 29 #[.slice (some ⟨rz, 0, none⟩) 1 1, .slice ka K.length kc, .slice la (unmL [⟨n, m, sevsOf true s0 s1⟩] K).length lc] w12 fun e w' => e = .returned (.bool true) ∧ Below w12.heap.size w12 w') :=
      zzleftAgrees_any [⟨n, m, sevsOf true s0 s1⟩] K rz ka la kc lc w12 (HR7.out.below B712.out) hR1 hRs (karg_of (HK7.out.below B712.out)) hk HLF.out
    have H30 : Hid (∀ W, Below w12.heap.size w12 W → Calls Try.prog 30 #[.slice (some ⟨rz, 0, none⟩) 1 1, .slice ka K.length kc, .slice ta T'.length tc, .slice ea (endL [⟨n, m, sevsOf true s0 s1⟩] K T').length ec] W fun e w' => e = .returned (.bool true) ∧ Below W.heap.size W w') := fun W hW =>
      zzendedAgrees_any [⟨n, m, sevsOf true s0 s1⟩] K T' rz ka ta ea kc tc ec W ((HR7.out.below B712.out).below hW) hR1 hRs ((HK7.out.below B712.out).below hW) hk (rarg_below (rarg_below HT7.out B712.out) hW) ht O1.out O3.out (HEN.out.imp id fun ⟨g, h1, h2⟩ => ⟨g, h1, h2.below hW⟩)
    have H31 : Hid (∀ W, Below w12.heap.size w12 W → Calls Try.prog 31 #[.slice (some ⟨rz, 0, none⟩) 1 1, .slice ka K.length kc, .slice sa S.length sc, .pointer (some ⟨w7.heap.size + 9, 0, none⟩)] W fun e w' => e = .returned (.bool true) ∧ Below W.heap.size W w') := fun W hW =>
      zzengineAgrees_any (R := [⟨n, m, sevsOf true s0 s1⟩]) (mb := w7.heap.size + 4) (HENG.out.below hW) (fun q ab hq hk' => by
        have := HPTR.out q ab hq hk'
        rw [hW.block ab (Array.getElem?_eq_some_iff.1 this).1]
        exact this) hpl ka sa kc sc ((HR7.out.below B712.out).below hW) hR1 hRs ((HK7.out.below B712.out).below hW) hk (sarg_below (sarg_below HS7.out B712.out) hW) hs O1.out O2.out
    have HB12 : Hid (Below w.heap.size w w12) := HB7.out.trans (B712.out.mono hw7)
    clear HENG HPTR HLF HEN hR1 hRs
    go_wp2_with fail
    refine Calls.mono H29.out ?_
    rintro e w13 ⟨rfl, b13⟩
    go_wp2_with fail
    refine Calls.mono (H30.out _ b13) ?_
    rintro e w14 ⟨rfl, b14⟩
    have b14' := Below.step b13 b14
    go_wp2_with fail
    refine Calls.mono (H31.out _ b14') ?_
    rintro e w15 ⟨rfl, b15⟩
    have b15' := Below.step b14' b15
    clear H29 H30 H31
    go_wp2_with fail
    go_ret
    exact ⟨rfl, Below.step HB12.out b15'⟩
end Go.Proofs.Qxb6605676a.Kz
