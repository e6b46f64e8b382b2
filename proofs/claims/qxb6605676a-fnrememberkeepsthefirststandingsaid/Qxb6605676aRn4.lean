import Derived.Test.Qxb6605676aRn1
namespace Go.Proofs.Qxb6605676a.Rm
set_option linter.unusedVariables false
set_option linter.unusedSimpArgs false
open Go.RowKit Go.Proofs.Qxb6605676a.Mp Go.Proofs.Qxb6605676a.Tm Go.Proofs.Qxb6605676a.En
open Go.ChangeMaps (setBlock heap_setBlock_same)

set_option maxHeartbeats 8000000 in
set_option maxRecDepth 10000 in
theorem first_sndd (r l : Int) (s : ByteArray) (b1 o1 : Nat) (z1 : ZAl) (ok1 : z1.Ok) (e1 e2 : Int) (p1 : -9223372036854775808 ≤ e1) (p1' : e1 ≤ 9223372036854775807) (p2 : -9223372036854775808 ≤ e2) (p2' : e2 ≤ 9223372036854775807) (w : World) (hz1 : ZAt w b1 o1 z1) (h : s.size + z1.st.size + z1.ls.size + z1.lm.size ≤ 1048576) :
    Calls Try.prog 8 #[.int .i64 r, .int .i64 l, .string s, .pointer (some ⟨b1, o1, none⟩), .pointer none, .bool false, .int .i64 e1, .bool false, .int .i64 e2] w fun e w' => e = .returned (.bool true) ∧ Below w.heap.size w w' := by
  have h1 : (s.size : Int) + z1.st.size + z1.ls.size + z1.lm.size ≤ 1048576 := by omega
  have HG : Hid ((Mp.get Key.same ⟨r, l, s⟩ ([] : List (Key × Value))).getD (T 0) = T 0) := rfl
  have HO : Hid ((Mp.get Key.same ⟨r, l, s⟩ ([] : List (Key × Value))).isSome = false) := rfl
  have K0 : Below w.heap.size w w := Below.refl _ _
  have MARK : Stage 0 := ⟨trivial⟩
  go_enter Try.func8, Try.ntmps8
  go_wp2_with (first | (go_at_call 47; refine (bytes47_sn_yes _ _ _ _ _ _ _ _ _ _ _ hz1 h).mono ?_; rintro e v0 ⟨rfl, rfl⟩) | (go_at_call_of 35 (Value.pointer (some ⟨b1, o1, none⟩)); refine (alarmBytes_some _ _ _ _ hz1 (by omega) (by omega) (by omega)).mono ?_; rintro e u1 ⟨rfl, hb⟩; replace K0 := K0.trans (hb.mono K0.size); replace hz1 := hz1.below hb; clear hb) | (go_at_call_of 35 (Value.pointer none); refine (alarmBytes_nil _).mono ?_; rintro e v1 ⟨rfl, rfl⟩) | (go_at_call_of 36 (Value.pointer (some ⟨b1, o1, none⟩)); refine (copyArg_some _ _ _ _ hz1).mono ?_; rintro e x1 ⟨rfl, hb, hc1⟩; have KA := K0.size; replace K0 := K0.trans (hb.mono K0.size); clear hb hz1) | (go_at_call_of 36 (Value.pointer none); refine (copyArg_none _).mono ?_; rintro e v2 ⟨rfl, rfl⟩) | (go_at_call 37; refine (zzengine1_any _ _ _ _ _).mono ?_; rintro e w2 ⟨rfl, hb, E, hlv⟩; have L1 := World.block_lt_of_cell? _ _ hc1.c0; replace hc1 := hc1.below hb; have KB := K0.size; replace K0 := K0.trans (hb.mono K0.size); clear hb hlv) | (go_at_call 39; refine (noAlarm _).mono ?_; rintro e v3 ⟨rfl, rfl⟩))
  have HZ : Hid (ZAt _ u1.heap.size 0 z1) := hc1
  obtain ⟨c0, c1, c2, c3, c4, c5, c6, c7⟩ := hc1
  simp only [Nat.zero_add] at c1 c2 c3 c4 c5 c6 c7
  have HN : Hid (∀ W : World, Calls Try.prog 40 #[.string z1.st, .int .i64 z1.since, .int .i64 z1.lts, .string z1.ls, .string z1.lm, .float .f64 z1.lv, .bool z1.cl, .int .i64 z1.cs] W fun e w' => ∃ b, W.heap.size ≤ b ∧ e = .returned (.pointer (some ⟨b, 0, none⟩)) ∧ Below W.heap.size W w' ∧ w'.heap[b]? = some (.cells (alarmCells z1) 136)) := fun W => newAlarm_any z1 ok1 W
  go_region_held3 (fun W => W.cell? ⟨u1.heap.size, 0, none⟩ = some (.string z1.st) ∧ W.cell? ⟨u1.heap.size, 1, none⟩ = some (.int .i64 z1.since) ∧ W.cell? ⟨u1.heap.size, 2, none⟩ = some (.int .i64 z1.lts) ∧ W.cell? ⟨u1.heap.size, 3, none⟩ = some (.string z1.ls) ∧ W.cell? ⟨u1.heap.size, 4, none⟩ = some (.string z1.lm) ∧ W.cell? ⟨u1.heap.size, 5, none⟩ = some (.float .f64 z1.lv) ∧ W.cell? ⟨u1.heap.size, 6, none⟩ = some (.bool z1.cl) ∧ W.cell? ⟨u1.heap.size, 7, none⟩ = some (.int .i64 z1.cs)) (simp (maxDischargeDepth := 8) [*]) (first | (go_at_call 40; refine (HN.out _).mono ?_; rintro e w4 ⟨ab1, hab1, rfl, hbr, ha1⟩; have kk := below_cell_some hbr))
  have hbr' : Below w2.heap.size w2 w4 := (Below.refl _ _).drew.trans hbr
  have hab1' : w2.heap.size ≤ ab1 := hab1
  have MM1 := E.lt
  replace E := E.below hbr'
  have hc1 := HZ.out.below hbr'
  have LB1 : ab1 < w4.heap.size := (Array.getElem?_eq_some_iff.1 ha1).1
  have KK1 := K0.size
  replace K0 := K0.trans (hbr'.mono K0.size)
  clear HN kk c0 c1 c2 c3 c4 c5 c6 c7 hbr hbr' HZ hab1
  go_wp2_with (first | (go_at_call 41; have _ : Stage 0 := MARK; refine (zzremember_some E r l s 0 false ab1 z1 ha1 rfl (by exact HG.out) (by exact HO.out)).mono ?_; rintro e w5 ⟨rfl, hg, hm, hrec⟩; have M1 := E.lt; replace E := Eng.setKeys E hg hm; replace ha1 := alarm_grown ha1 hg (by omega); have LR := Nat.le_refl (w4.heap.size + 3); replace hc1 := hc1.grown hg (by omega); have KE := K0.size; replace K0 := K0.grown hg K0.size (fun k hk => by have := Option.some.inj hk; omega); clear hm hg; replace MARK : Stage 1 := ⟨trivial⟩) | (go_at_call 48; refine (zzdelete_any E r l s).mono ?_; rintro e w6 ⟨rfl, hg, hm⟩; have M2 := E.lt; replace E := E.setCool hg hm; replace hc1 := hc1.grown hg (by omega); replace ha1 := alarm_grown ha1 hg (by omega); replace hrec := alarm_grown hrec hg (by omega); have KF := K0.size; replace K0 := K0.grown hg K0.size (fun k hk => by have := Option.some.inj hk; omega); clear hm hg) | (go_at_call 39; refine (noAlarm _).mono ?_; rintro e v4 ⟨rfl, rfl⟩) | (go_at_call 41; have _ : Stage 1 := MARK; refine (zzremember_again E r l s _ (some ⟨w4.heap.size + 3, 0, none⟩) 0 false (get_put_one _ _)).mono ?_; rintro e w9 ⟨rfl, hb⟩; replace E := E.below hb; replace hc1 := hc1.below hb; replace hrec := alarm_below hrec hb; replace K0 := K0.trans (hb.mono K0.size); clear hb) | (go_at_call 42; refine (zzkeyBefore_any E r l s (some ⟨w4.heap.size + 3, 0, none⟩) 0 false (by omega) (by omega) (get_put_one _ _)).mono ?_; rintro e w10 ⟨rfl, hb⟩; replace E := E.below hb; replace hc1 := hc1.below hb; replace hrec := alarm_below hrec hb; replace K0 := K0.trans (hb.mono K0.size); clear hb) | (go_at_call 43; refine (zzsizes_any E).mono ?_; rintro e w11 ⟨rfl, hb⟩; replace E := E.below hb; replace hc1 := hc1.below hb; replace hrec := alarm_below hrec hb; replace K0 := K0.trans (hb.mono K0.size); clear hb) | (go_at_call 45; refine (alarmFields_any z1 ok1 _ _ hrec).mono ?_; rintro e w12 ⟨rfl, hb⟩; replace hc1 := hc1.below hb; replace K0 := K0.trans (hb.mono K0.size); clear hb) | (go_at_call 46; refine (fieldsAre_any z1 _ _ _ hc1).mono ?_; rintro e w13 ⟨rfl, rfl⟩))
  go_ret
  exact ⟨rfl, K0⟩

set_option maxHeartbeats 8000000 in
set_option maxRecDepth 10000 in
theorem first_sndc (r l : Int) (s : ByteArray) (b1 o1 : Nat) (z1 : ZAl) (ok1 : z1.Ok) (e1 e2 : Int) (p1 : -9223372036854775808 ≤ e1) (p1' : e1 ≤ 9223372036854775807) (p2 : -9223372036854775808 ≤ e2) (p2' : e2 ≤ 9223372036854775807) (w : World) (hz1 : ZAt w b1 o1 z1) (h : s.size + z1.st.size + z1.ls.size + z1.lm.size ≤ 1048576) :
    Calls Try.prog 8 #[.int .i64 r, .int .i64 l, .string s, .pointer (some ⟨b1, o1, none⟩), .pointer none, .bool false, .int .i64 e1, .bool true, .int .i64 e2] w fun e w' => e = .returned (.bool true) ∧ Below w.heap.size w w' := by
  have h1 : (s.size : Int) + z1.st.size + z1.ls.size + z1.lm.size ≤ 1048576 := by omega
  have HG : Hid ((Mp.get Key.same ⟨r, l, s⟩ ([] : List (Key × Value))).getD (T 0) = T 0) := rfl
  have HO : Hid ((Mp.get Key.same ⟨r, l, s⟩ ([] : List (Key × Value))).isSome = false) := rfl
  have K0 : Below w.heap.size w w := Below.refl _ _
  have MARK : Stage 0 := ⟨trivial⟩
  go_enter Try.func8, Try.ntmps8
  go_wp2_with (first | (go_at_call 47; refine (bytes47_sn_yes _ _ _ _ _ _ _ _ _ _ _ hz1 h).mono ?_; rintro e v0 ⟨rfl, rfl⟩) | (go_at_call_of 35 (Value.pointer (some ⟨b1, o1, none⟩)); refine (alarmBytes_some _ _ _ _ hz1 (by omega) (by omega) (by omega)).mono ?_; rintro e u1 ⟨rfl, hb⟩; replace K0 := K0.trans (hb.mono K0.size); replace hz1 := hz1.below hb; clear hb) | (go_at_call_of 35 (Value.pointer none); refine (alarmBytes_nil _).mono ?_; rintro e v1 ⟨rfl, rfl⟩) | (go_at_call_of 36 (Value.pointer (some ⟨b1, o1, none⟩)); refine (copyArg_some _ _ _ _ hz1).mono ?_; rintro e x1 ⟨rfl, hb, hc1⟩; have KA := K0.size; replace K0 := K0.trans (hb.mono K0.size); clear hb hz1) | (go_at_call_of 36 (Value.pointer none); refine (copyArg_none _).mono ?_; rintro e v2 ⟨rfl, rfl⟩) | (go_at_call 37; refine (zzengine1_any _ _ _ _ _).mono ?_; rintro e w2 ⟨rfl, hb, E, hlv⟩; have L1 := World.block_lt_of_cell? _ _ hc1.c0; replace hc1 := hc1.below hb; have KB := K0.size; replace K0 := K0.trans (hb.mono K0.size); clear hb hlv) | (go_at_call 39; refine (noAlarm _).mono ?_; rintro e v3 ⟨rfl, rfl⟩))
  have HZ : Hid (ZAt _ u1.heap.size 0 z1) := hc1
  obtain ⟨c0, c1, c2, c3, c4, c5, c6, c7⟩ := hc1
  simp only [Nat.zero_add] at c1 c2 c3 c4 c5 c6 c7
  have HN : Hid (∀ W : World, Calls Try.prog 40 #[.string z1.st, .int .i64 z1.since, .int .i64 z1.lts, .string z1.ls, .string z1.lm, .float .f64 z1.lv, .bool z1.cl, .int .i64 z1.cs] W fun e w' => ∃ b, W.heap.size ≤ b ∧ e = .returned (.pointer (some ⟨b, 0, none⟩)) ∧ Below W.heap.size W w' ∧ w'.heap[b]? = some (.cells (alarmCells z1) 136)) := fun W => newAlarm_any z1 ok1 W
  go_region_held3 (fun W => W.cell? ⟨u1.heap.size, 0, none⟩ = some (.string z1.st) ∧ W.cell? ⟨u1.heap.size, 1, none⟩ = some (.int .i64 z1.since) ∧ W.cell? ⟨u1.heap.size, 2, none⟩ = some (.int .i64 z1.lts) ∧ W.cell? ⟨u1.heap.size, 3, none⟩ = some (.string z1.ls) ∧ W.cell? ⟨u1.heap.size, 4, none⟩ = some (.string z1.lm) ∧ W.cell? ⟨u1.heap.size, 5, none⟩ = some (.float .f64 z1.lv) ∧ W.cell? ⟨u1.heap.size, 6, none⟩ = some (.bool z1.cl) ∧ W.cell? ⟨u1.heap.size, 7, none⟩ = some (.int .i64 z1.cs)) (simp (maxDischargeDepth := 8) [*]) (first | (go_at_call 40; refine (HN.out _).mono ?_; rintro e w4 ⟨ab1, hab1, rfl, hbr, ha1⟩; have kk := below_cell_some hbr))
  have hbr' : Below w2.heap.size w2 w4 := (Below.refl _ _).drew.trans hbr
  have hab1' : w2.heap.size ≤ ab1 := hab1
  have MM1 := E.lt
  replace E := E.below hbr'
  have hc1 := HZ.out.below hbr'
  have LB1 : ab1 < w4.heap.size := (Array.getElem?_eq_some_iff.1 ha1).1
  have KK1 := K0.size
  replace K0 := K0.trans (hbr'.mono K0.size)
  clear HN kk c0 c1 c2 c3 c4 c5 c6 c7 hbr hbr' HZ hab1
  go_wp2_with (first | (go_at_call 41; have _ : Stage 0 := MARK; refine (zzremember_some E r l s 0 false ab1 z1 ha1 rfl (by exact HG.out) (by exact HO.out)).mono ?_; rintro e w5 ⟨rfl, hg, hm, hrec⟩; have M1 := E.lt; replace E := Eng.setKeys E hg hm; replace ha1 := alarm_grown ha1 hg (by omega); have LR := Nat.le_refl (w4.heap.size + 3); replace hc1 := hc1.grown hg (by omega); have KE := K0.size; replace K0 := K0.grown hg K0.size (fun k hk => by have := Option.some.inj hk; omega); clear hm hg; replace MARK : Stage 1 := ⟨trivial⟩) | (go_at_call_of 38 (Value.int IntKind.i64 e2); refine (zzset_any E r l s e2 p2 p2').mono ?_; rintro e w6 ⟨rfl, hg, hm⟩; have M2 := E.lt; replace E := E.setCool hg hm; replace hc1 := hc1.grown hg (by omega); replace ha1 := alarm_grown ha1 hg (by omega); replace hrec := alarm_grown hrec hg (by omega); have KF := K0.size; replace K0 := K0.grown hg K0.size (fun k hk => by have := Option.some.inj hk; omega); clear hm hg) | (go_at_call 39; refine (noAlarm _).mono ?_; rintro e v4 ⟨rfl, rfl⟩) | (go_at_call 41; have _ : Stage 1 := MARK; refine (zzremember_again E r l s _ (some ⟨w4.heap.size + 3, 0, none⟩) 0 false (get_put_one _ _)).mono ?_; rintro e w9 ⟨rfl, hb⟩; replace E := E.below hb; replace hc1 := hc1.below hb; replace hrec := alarm_below hrec hb; replace K0 := K0.trans (hb.mono K0.size); clear hb) | (go_at_call 42; refine (zzkeyBefore_any E r l s (some ⟨w4.heap.size + 3, 0, none⟩) 0 false (by omega) (by omega) (get_put_one _ _)).mono ?_; rintro e w10 ⟨rfl, hb⟩; replace E := E.below hb; replace hc1 := hc1.below hb; replace hrec := alarm_below hrec hb; replace K0 := K0.trans (hb.mono K0.size); clear hb) | (go_at_call 43; refine (zzsizes_any E).mono ?_; rintro e w11 ⟨rfl, hb⟩; replace E := E.below hb; replace hc1 := hc1.below hb; replace hrec := alarm_below hrec hb; replace K0 := K0.trans (hb.mono K0.size); clear hb) | (go_at_call 45; refine (alarmFields_any z1 ok1 _ _ hrec).mono ?_; rintro e w12 ⟨rfl, hb⟩; replace hc1 := hc1.below hb; replace K0 := K0.trans (hb.mono K0.size); clear hb) | (go_at_call 46; refine (fieldsAre_any z1 _ _ _ hc1).mono ?_; rintro e w13 ⟨rfl, rfl⟩))
  go_ret
  exact ⟨rfl, K0⟩

set_option maxHeartbeats 8000000 in
set_option maxRecDepth 10000 in
theorem first_sncd (r l : Int) (s : ByteArray) (b1 o1 : Nat) (z1 : ZAl) (ok1 : z1.Ok) (e1 e2 : Int) (p1 : -9223372036854775808 ≤ e1) (p1' : e1 ≤ 9223372036854775807) (p2 : -9223372036854775808 ≤ e2) (p2' : e2 ≤ 9223372036854775807) (w : World) (hz1 : ZAt w b1 o1 z1) (h : s.size + z1.st.size + z1.ls.size + z1.lm.size ≤ 1048576) :
    Calls Try.prog 8 #[.int .i64 r, .int .i64 l, .string s, .pointer (some ⟨b1, o1, none⟩), .pointer none, .bool true, .int .i64 e1, .bool false, .int .i64 e2] w fun e w' => e = .returned (.bool true) ∧ Below w.heap.size w w' := by
  have h1 : (s.size : Int) + z1.st.size + z1.ls.size + z1.lm.size ≤ 1048576 := by omega
  have HG : Hid ((Mp.get Key.same ⟨r, l, s⟩ (put Key.same ⟨r, l, s⟩ (T e1) [])).getD (T 0) = T e1) := by show (Mp.get Key.same ⟨r, l, s⟩ (put Key.same ⟨r, l, s⟩ (T e1) [])).getD (T 0) = _; rw [get_put_one]; rfl
  have HO : Hid ((Mp.get Key.same ⟨r, l, s⟩ (put Key.same ⟨r, l, s⟩ (T e1) [])).isSome = true) := by show (Mp.get Key.same ⟨r, l, s⟩ (put Key.same ⟨r, l, s⟩ (T e1) [])).isSome = _; rw [get_put_one]; rfl
  have K0 : Below w.heap.size w w := Below.refl _ _
  have MARK : Stage 0 := ⟨trivial⟩
  go_enter Try.func8, Try.ntmps8
  go_wp2_with (first | (go_at_call 47; refine (bytes47_sn_yes _ _ _ _ _ _ _ _ _ _ _ hz1 h).mono ?_; rintro e v0 ⟨rfl, rfl⟩) | (go_at_call_of 35 (Value.pointer (some ⟨b1, o1, none⟩)); refine (alarmBytes_some _ _ _ _ hz1 (by omega) (by omega) (by omega)).mono ?_; rintro e u1 ⟨rfl, hb⟩; replace K0 := K0.trans (hb.mono K0.size); replace hz1 := hz1.below hb; clear hb) | (go_at_call_of 35 (Value.pointer none); refine (alarmBytes_nil _).mono ?_; rintro e v1 ⟨rfl, rfl⟩) | (go_at_call_of 36 (Value.pointer (some ⟨b1, o1, none⟩)); refine (copyArg_some _ _ _ _ hz1).mono ?_; rintro e x1 ⟨rfl, hb, hc1⟩; have KA := K0.size; replace K0 := K0.trans (hb.mono K0.size); clear hb hz1) | (go_at_call_of 36 (Value.pointer none); refine (copyArg_none _).mono ?_; rintro e v2 ⟨rfl, rfl⟩) | (go_at_call 37; refine (zzengine1_any _ _ _ _ _).mono ?_; rintro e w2 ⟨rfl, hb, E, hlv⟩; have L1 := World.block_lt_of_cell? _ _ hc1.c0; replace hc1 := hc1.below hb; have KB := K0.size; replace K0 := K0.trans (hb.mono K0.size); clear hb hlv) | (go_at_call_of 38 (Value.int IntKind.i64 e1); refine (zzset_any E r l s e1 p1 p1').mono ?_; rintro e w3 ⟨rfl, hg, hm⟩; replace E := E.setCool hg hm; replace hc1 := hc1.grown hg (by omega); have KD := K0.size; replace K0 := K0.grown hg K0.size (fun k hk => by have := Option.some.inj hk; omega); clear hm hg) | (go_at_call 39; refine (noAlarm _).mono ?_; rintro e v3 ⟨rfl, rfl⟩))
  have HZ : Hid (ZAt _ u1.heap.size 0 z1) := hc1
  obtain ⟨c0, c1, c2, c3, c4, c5, c6, c7⟩ := hc1
  simp only [Nat.zero_add] at c1 c2 c3 c4 c5 c6 c7
  have HN : Hid (∀ W : World, Calls Try.prog 40 #[.string z1.st, .int .i64 z1.since, .int .i64 z1.lts, .string z1.ls, .string z1.lm, .float .f64 z1.lv, .bool z1.cl, .int .i64 z1.cs] W fun e w' => ∃ b, W.heap.size ≤ b ∧ e = .returned (.pointer (some ⟨b, 0, none⟩)) ∧ Below W.heap.size W w' ∧ w'.heap[b]? = some (.cells (alarmCells z1) 136)) := fun W => newAlarm_any z1 ok1 W
  go_region_held3 (fun W => W.cell? ⟨u1.heap.size, 0, none⟩ = some (.string z1.st) ∧ W.cell? ⟨u1.heap.size, 1, none⟩ = some (.int .i64 z1.since) ∧ W.cell? ⟨u1.heap.size, 2, none⟩ = some (.int .i64 z1.lts) ∧ W.cell? ⟨u1.heap.size, 3, none⟩ = some (.string z1.ls) ∧ W.cell? ⟨u1.heap.size, 4, none⟩ = some (.string z1.lm) ∧ W.cell? ⟨u1.heap.size, 5, none⟩ = some (.float .f64 z1.lv) ∧ W.cell? ⟨u1.heap.size, 6, none⟩ = some (.bool z1.cl) ∧ W.cell? ⟨u1.heap.size, 7, none⟩ = some (.int .i64 z1.cs)) (simp (maxDischargeDepth := 8) [*]) (first | (go_at_call 40; refine (HN.out _).mono ?_; rintro e w4 ⟨ab1, hab1, rfl, hbr, ha1⟩; have kk := below_cell_some hbr))
  have hbr' : Below w3.heap.size w3 w4 := (Below.refl _ _).drew.trans hbr
  have hab1' : w3.heap.size ≤ ab1 := hab1
  have MM1 := E.lt
  replace E := E.below hbr'
  have hc1 := HZ.out.below hbr'
  have LB1 : ab1 < w4.heap.size := (Array.getElem?_eq_some_iff.1 ha1).1
  have KK1 := K0.size
  replace K0 := K0.trans (hbr'.mono K0.size)
  clear HN kk c0 c1 c2 c3 c4 c5 c6 c7 hbr hbr' HZ hab1
  go_wp2_with (first | (go_at_call 41; have _ : Stage 0 := MARK; refine (zzremember_some E r l s e1 true ab1 z1 ha1 rfl (by exact HG.out) (by exact HO.out)).mono ?_; rintro e w5 ⟨rfl, hg, hm, hrec⟩; have M1 := E.lt; replace E := Eng.setKeys E hg hm; replace ha1 := alarm_grown ha1 hg (by omega); have LR := Nat.le_refl (w4.heap.size + 3); replace hc1 := hc1.grown hg (by omega); have KE := K0.size; replace K0 := K0.grown hg K0.size (fun k hk => by have := Option.some.inj hk; omega); clear hm hg; replace MARK : Stage 1 := ⟨trivial⟩) | (go_at_call 48; refine (zzdelete_any E r l s).mono ?_; rintro e w6 ⟨rfl, hg, hm⟩; have M2 := E.lt; replace E := E.setCool hg hm; replace hc1 := hc1.grown hg (by omega); replace ha1 := alarm_grown ha1 hg (by omega); replace hrec := alarm_grown hrec hg (by omega); have KF := K0.size; replace K0 := K0.grown hg K0.size (fun k hk => by have := Option.some.inj hk; omega); clear hm hg) | (go_at_call 39; refine (noAlarm _).mono ?_; rintro e v4 ⟨rfl, rfl⟩) | (go_at_call 41; have _ : Stage 1 := MARK; refine (zzremember_again E r l s _ (some ⟨w4.heap.size + 3, 0, none⟩) e1 true (get_put_one _ _)).mono ?_; rintro e w9 ⟨rfl, hb⟩; replace E := E.below hb; replace hc1 := hc1.below hb; replace hrec := alarm_below hrec hb; replace K0 := K0.trans (hb.mono K0.size); clear hb) | (go_at_call 42; refine (zzkeyBefore_any E r l s (some ⟨w4.heap.size + 3, 0, none⟩) e1 true p1 p1' (get_put_one _ _)).mono ?_; rintro e w10 ⟨rfl, hb⟩; replace E := E.below hb; replace hc1 := hc1.below hb; replace hrec := alarm_below hrec hb; replace K0 := K0.trans (hb.mono K0.size); clear hb) | (go_at_call 43; refine (zzsizes_any E).mono ?_; rintro e w11 ⟨rfl, hb⟩; replace E := E.below hb; replace hc1 := hc1.below hb; replace hrec := alarm_below hrec hb; replace K0 := K0.trans (hb.mono K0.size); clear hb) | (go_at_call 45; refine (alarmFields_any z1 ok1 _ _ hrec).mono ?_; rintro e w12 ⟨rfl, hb⟩; replace hc1 := hc1.below hb; replace K0 := K0.trans (hb.mono K0.size); clear hb) | (go_at_call 46; refine (fieldsAre_any z1 _ _ _ hc1).mono ?_; rintro e w13 ⟨rfl, rfl⟩))
  go_ret
  exact ⟨rfl, K0⟩

set_option maxHeartbeats 8000000 in
set_option maxRecDepth 10000 in
theorem first_sncc (r l : Int) (s : ByteArray) (b1 o1 : Nat) (z1 : ZAl) (ok1 : z1.Ok) (e1 e2 : Int) (p1 : -9223372036854775808 ≤ e1) (p1' : e1 ≤ 9223372036854775807) (p2 : -9223372036854775808 ≤ e2) (p2' : e2 ≤ 9223372036854775807) (w : World) (hz1 : ZAt w b1 o1 z1) (h : s.size + z1.st.size + z1.ls.size + z1.lm.size ≤ 1048576) :
    Calls Try.prog 8 #[.int .i64 r, .int .i64 l, .string s, .pointer (some ⟨b1, o1, none⟩), .pointer none, .bool true, .int .i64 e1, .bool true, .int .i64 e2] w fun e w' => e = .returned (.bool true) ∧ Below w.heap.size w w' := by
  have h1 : (s.size : Int) + z1.st.size + z1.ls.size + z1.lm.size ≤ 1048576 := by omega
  have HG : Hid ((Mp.get Key.same ⟨r, l, s⟩ (put Key.same ⟨r, l, s⟩ (T e1) [])).getD (T 0) = T e1) := by show (Mp.get Key.same ⟨r, l, s⟩ (put Key.same ⟨r, l, s⟩ (T e1) [])).getD (T 0) = _; rw [get_put_one]; rfl
  have HO : Hid ((Mp.get Key.same ⟨r, l, s⟩ (put Key.same ⟨r, l, s⟩ (T e1) [])).isSome = true) := by show (Mp.get Key.same ⟨r, l, s⟩ (put Key.same ⟨r, l, s⟩ (T e1) [])).isSome = _; rw [get_put_one]; rfl
  have K0 : Below w.heap.size w w := Below.refl _ _
  have MARK : Stage 0 := ⟨trivial⟩
  go_enter Try.func8, Try.ntmps8
  go_wp2_with (first | (go_at_call 47; refine (bytes47_sn_yes _ _ _ _ _ _ _ _ _ _ _ hz1 h).mono ?_; rintro e v0 ⟨rfl, rfl⟩) | (go_at_call_of 35 (Value.pointer (some ⟨b1, o1, none⟩)); refine (alarmBytes_some _ _ _ _ hz1 (by omega) (by omega) (by omega)).mono ?_; rintro e u1 ⟨rfl, hb⟩; replace K0 := K0.trans (hb.mono K0.size); replace hz1 := hz1.below hb; clear hb) | (go_at_call_of 35 (Value.pointer none); refine (alarmBytes_nil _).mono ?_; rintro e v1 ⟨rfl, rfl⟩) | (go_at_call_of 36 (Value.pointer (some ⟨b1, o1, none⟩)); refine (copyArg_some _ _ _ _ hz1).mono ?_; rintro e x1 ⟨rfl, hb, hc1⟩; have KA := K0.size; replace K0 := K0.trans (hb.mono K0.size); clear hb hz1) | (go_at_call_of 36 (Value.pointer none); refine (copyArg_none _).mono ?_; rintro e v2 ⟨rfl, rfl⟩) | (go_at_call 37; refine (zzengine1_any _ _ _ _ _).mono ?_; rintro e w2 ⟨rfl, hb, E, hlv⟩; have L1 := World.block_lt_of_cell? _ _ hc1.c0; replace hc1 := hc1.below hb; have KB := K0.size; replace K0 := K0.trans (hb.mono K0.size); clear hb hlv) | (go_at_call_of 38 (Value.int IntKind.i64 e1); refine (zzset_any E r l s e1 p1 p1').mono ?_; rintro e w3 ⟨rfl, hg, hm⟩; replace E := E.setCool hg hm; replace hc1 := hc1.grown hg (by omega); have KD := K0.size; replace K0 := K0.grown hg K0.size (fun k hk => by have := Option.some.inj hk; omega); clear hm hg) | (go_at_call 39; refine (noAlarm _).mono ?_; rintro e v3 ⟨rfl, rfl⟩))
  have HZ : Hid (ZAt _ u1.heap.size 0 z1) := hc1
  obtain ⟨c0, c1, c2, c3, c4, c5, c6, c7⟩ := hc1
  simp only [Nat.zero_add] at c1 c2 c3 c4 c5 c6 c7
  have HN : Hid (∀ W : World, Calls Try.prog 40 #[.string z1.st, .int .i64 z1.since, .int .i64 z1.lts, .string z1.ls, .string z1.lm, .float .f64 z1.lv, .bool z1.cl, .int .i64 z1.cs] W fun e w' => ∃ b, W.heap.size ≤ b ∧ e = .returned (.pointer (some ⟨b, 0, none⟩)) ∧ Below W.heap.size W w' ∧ w'.heap[b]? = some (.cells (alarmCells z1) 136)) := fun W => newAlarm_any z1 ok1 W
  go_region_held3 (fun W => W.cell? ⟨u1.heap.size, 0, none⟩ = some (.string z1.st) ∧ W.cell? ⟨u1.heap.size, 1, none⟩ = some (.int .i64 z1.since) ∧ W.cell? ⟨u1.heap.size, 2, none⟩ = some (.int .i64 z1.lts) ∧ W.cell? ⟨u1.heap.size, 3, none⟩ = some (.string z1.ls) ∧ W.cell? ⟨u1.heap.size, 4, none⟩ = some (.string z1.lm) ∧ W.cell? ⟨u1.heap.size, 5, none⟩ = some (.float .f64 z1.lv) ∧ W.cell? ⟨u1.heap.size, 6, none⟩ = some (.bool z1.cl) ∧ W.cell? ⟨u1.heap.size, 7, none⟩ = some (.int .i64 z1.cs)) (simp (maxDischargeDepth := 8) [*]) (first | (go_at_call 40; refine (HN.out _).mono ?_; rintro e w4 ⟨ab1, hab1, rfl, hbr, ha1⟩; have kk := below_cell_some hbr))
  have hbr' : Below w3.heap.size w3 w4 := (Below.refl _ _).drew.trans hbr
  have hab1' : w3.heap.size ≤ ab1 := hab1
  have MM1 := E.lt
  replace E := E.below hbr'
  have hc1 := HZ.out.below hbr'
  have LB1 : ab1 < w4.heap.size := (Array.getElem?_eq_some_iff.1 ha1).1
  have KK1 := K0.size
  replace K0 := K0.trans (hbr'.mono K0.size)
  clear HN kk c0 c1 c2 c3 c4 c5 c6 c7 hbr hbr' HZ hab1
  go_wp2_with (first | (go_at_call 41; have _ : Stage 0 := MARK; refine (zzremember_some E r l s e1 true ab1 z1 ha1 rfl (by exact HG.out) (by exact HO.out)).mono ?_; rintro e w5 ⟨rfl, hg, hm, hrec⟩; have M1 := E.lt; replace E := Eng.setKeys E hg hm; replace ha1 := alarm_grown ha1 hg (by omega); have LR := Nat.le_refl (w4.heap.size + 3); replace hc1 := hc1.grown hg (by omega); have KE := K0.size; replace K0 := K0.grown hg K0.size (fun k hk => by have := Option.some.inj hk; omega); clear hm hg; replace MARK : Stage 1 := ⟨trivial⟩) | (go_at_call_of 38 (Value.int IntKind.i64 e2); refine (zzset_any E r l s e2 p2 p2').mono ?_; rintro e w6 ⟨rfl, hg, hm⟩; have M2 := E.lt; replace E := E.setCool hg hm; replace hc1 := hc1.grown hg (by omega); replace ha1 := alarm_grown ha1 hg (by omega); replace hrec := alarm_grown hrec hg (by omega); have KF := K0.size; replace K0 := K0.grown hg K0.size (fun k hk => by have := Option.some.inj hk; omega); clear hm hg) | (go_at_call 39; refine (noAlarm _).mono ?_; rintro e v4 ⟨rfl, rfl⟩) | (go_at_call 41; have _ : Stage 1 := MARK; refine (zzremember_again E r l s _ (some ⟨w4.heap.size + 3, 0, none⟩) e1 true (get_put_one _ _)).mono ?_; rintro e w9 ⟨rfl, hb⟩; replace E := E.below hb; replace hc1 := hc1.below hb; replace hrec := alarm_below hrec hb; replace K0 := K0.trans (hb.mono K0.size); clear hb) | (go_at_call 42; refine (zzkeyBefore_any E r l s (some ⟨w4.heap.size + 3, 0, none⟩) e1 true p1 p1' (get_put_one _ _)).mono ?_; rintro e w10 ⟨rfl, hb⟩; replace E := E.below hb; replace hc1 := hc1.below hb; replace hrec := alarm_below hrec hb; replace K0 := K0.trans (hb.mono K0.size); clear hb) | (go_at_call 43; refine (zzsizes_any E).mono ?_; rintro e w11 ⟨rfl, hb⟩; replace E := E.below hb; replace hc1 := hc1.below hb; replace hrec := alarm_below hrec hb; replace K0 := K0.trans (hb.mono K0.size); clear hb) | (go_at_call 45; refine (alarmFields_any z1 ok1 _ _ hrec).mono ?_; rintro e w12 ⟨rfl, hb⟩; replace hc1 := hc1.below hb; replace K0 := K0.trans (hb.mono K0.size); clear hb) | (go_at_call 46; refine (fieldsAre_any z1 _ _ _ hc1).mono ?_; rintro e w13 ⟨rfl, rfl⟩))
  go_ret
  exact ⟨rfl, K0⟩

end Go.Proofs.Qxb6605676a.Rm
