import Derived.Test.Qxb6605676aRn1
namespace Go.Proofs.Qxb6605676a.Rm
set_option linter.unusedVariables false
set_option linter.unusedSimpArgs false
open Go.RowKit Go.Proofs.Qxb6605676a.Mp Go.Proofs.Qxb6605676a.Tm Go.Proofs.Qxb6605676a.En
open Go.ChangeMaps (setBlock heap_setBlock_same)

set_option maxHeartbeats 8000000 in
set_option maxRecDepth 10000 in
theorem first_nndd (r l : Int) (s : ByteArray) (e1 e2 : Int) (p1 : -9223372036854775808 ≤ e1) (p1' : e1 ≤ 9223372036854775807) (p2 : -9223372036854775808 ≤ e2) (p2' : e2 ≤ 9223372036854775807) (w : World) (h : s.size ≤ 1048576) :
    Calls Try.prog 8 #[.int .i64 r, .int .i64 l, .string s, .pointer none, .pointer none, .bool false, .int .i64 e1, .bool false, .int .i64 e2] w fun e w' => e = .returned (.bool true) ∧ Below w.heap.size w w' := by
  have h1 : (s.size : Int) ≤ 1048576 := by omega
  have HG : Hid ((Mp.get Key.same ⟨r, l, s⟩ ([] : List (Key × Value))).getD (T 0) = T 0) := rfl
  have HO : Hid ((Mp.get Key.same ⟨r, l, s⟩ ([] : List (Key × Value))).isSome = false) := rfl
  have K0 : Below w.heap.size w w := Below.refl _ _
  have MARK : Stage 0 := ⟨trivial⟩
  go_enter Try.func8, Try.ntmps8
  go_wp2_with (first | (go_at_call 47; refine (bytes47_nn_yes _ _ _ _ _ _ _ _ h).mono ?_; rintro e v0 ⟨rfl, rfl⟩) | (go_at_call_of 35 (Value.pointer none); refine (alarmBytes_nil _).mono ?_; rintro e v1 ⟨rfl, rfl⟩) | (go_at_call_of 36 (Value.pointer none); refine (copyArg_none _).mono ?_; rintro e v2 ⟨rfl, rfl⟩) | (go_at_call 37; refine (zzengine1_any _ _ _ _ _).mono ?_; rintro e w2 ⟨rfl, hb, E, hlv⟩; have KB := K0.size; replace K0 := K0.trans (hb.mono K0.size); clear hb hlv) | (go_at_call 39; refine (noAlarm _).mono ?_; rintro e v3 ⟨rfl, rfl⟩) | (go_at_call 41; have _ : Stage 0 := MARK; refine (zzremember_nil E r l s 0 false rfl (by exact HG.out) (by exact HO.out)).mono ?_; rintro e w5 ⟨rfl, hg, hm⟩; replace E := Eng.setKeys E hg hm; have KE := K0.size; replace K0 := K0.grown hg K0.size (fun k hk => by have := Option.some.inj hk; omega); clear hm hg; replace MARK : Stage 1 := ⟨trivial⟩) | (go_at_call 48; refine (zzdelete_any E r l s).mono ?_; rintro e w6 ⟨rfl, hg, hm⟩; have M2 := E.lt; replace E := E.setCool hg hm; have KF := K0.size; replace K0 := K0.grown hg K0.size (fun k hk => by have := Option.some.inj hk; omega); clear hm hg) | (go_at_call 39; refine (noAlarm _).mono ?_; rintro e v4 ⟨rfl, rfl⟩) | (go_at_call 41; have _ : Stage 1 := MARK; refine (zzremember_again E r l s _ none 0 false (get_put_one _ _)).mono ?_; rintro e w9 ⟨rfl, hb⟩; replace E := E.below hb; replace K0 := K0.trans (hb.mono K0.size); clear hb) | (go_at_call 42; refine (zzkeyBefore_any E r l s none 0 false (by omega) (by omega) (get_put_one _ _)).mono ?_; rintro e w10 ⟨rfl, hb⟩; replace E := E.below hb; replace K0 := K0.trans (hb.mono K0.size); clear hb) | (go_at_call 43; refine (zzsizes_any E).mono ?_; rintro e w11 ⟨rfl, hb⟩; replace E := E.below hb; replace K0 := K0.trans (hb.mono K0.size); clear hb))
  go_ret
  exact ⟨rfl, K0⟩

set_option maxHeartbeats 8000000 in
set_option maxRecDepth 10000 in
theorem first_nndc (r l : Int) (s : ByteArray) (e1 e2 : Int) (p1 : -9223372036854775808 ≤ e1) (p1' : e1 ≤ 9223372036854775807) (p2 : -9223372036854775808 ≤ e2) (p2' : e2 ≤ 9223372036854775807) (w : World) (h : s.size ≤ 1048576) :
    Calls Try.prog 8 #[.int .i64 r, .int .i64 l, .string s, .pointer none, .pointer none, .bool false, .int .i64 e1, .bool true, .int .i64 e2] w fun e w' => e = .returned (.bool true) ∧ Below w.heap.size w w' := by
  have h1 : (s.size : Int) ≤ 1048576 := by omega
  have HG : Hid ((Mp.get Key.same ⟨r, l, s⟩ ([] : List (Key × Value))).getD (T 0) = T 0) := rfl
  have HO : Hid ((Mp.get Key.same ⟨r, l, s⟩ ([] : List (Key × Value))).isSome = false) := rfl
  have K0 : Below w.heap.size w w := Below.refl _ _
  have MARK : Stage 0 := ⟨trivial⟩
  go_enter Try.func8, Try.ntmps8
  go_wp2_with (first | (go_at_call 47; refine (bytes47_nn_yes _ _ _ _ _ _ _ _ h).mono ?_; rintro e v0 ⟨rfl, rfl⟩) | (go_at_call_of 35 (Value.pointer none); refine (alarmBytes_nil _).mono ?_; rintro e v1 ⟨rfl, rfl⟩) | (go_at_call_of 36 (Value.pointer none); refine (copyArg_none _).mono ?_; rintro e v2 ⟨rfl, rfl⟩) | (go_at_call 37; refine (zzengine1_any _ _ _ _ _).mono ?_; rintro e w2 ⟨rfl, hb, E, hlv⟩; have KB := K0.size; replace K0 := K0.trans (hb.mono K0.size); clear hb hlv) | (go_at_call 39; refine (noAlarm _).mono ?_; rintro e v3 ⟨rfl, rfl⟩) | (go_at_call 41; have _ : Stage 0 := MARK; refine (zzremember_nil E r l s 0 false rfl (by exact HG.out) (by exact HO.out)).mono ?_; rintro e w5 ⟨rfl, hg, hm⟩; replace E := Eng.setKeys E hg hm; have KE := K0.size; replace K0 := K0.grown hg K0.size (fun k hk => by have := Option.some.inj hk; omega); clear hm hg; replace MARK : Stage 1 := ⟨trivial⟩) | (go_at_call_of 38 (Value.int IntKind.i64 e2); refine (zzset_any E r l s e2 p2 p2').mono ?_; rintro e w6 ⟨rfl, hg, hm⟩; have M2 := E.lt; replace E := E.setCool hg hm; have KF := K0.size; replace K0 := K0.grown hg K0.size (fun k hk => by have := Option.some.inj hk; omega); clear hm hg) | (go_at_call 39; refine (noAlarm _).mono ?_; rintro e v4 ⟨rfl, rfl⟩) | (go_at_call 41; have _ : Stage 1 := MARK; refine (zzremember_again E r l s _ none 0 false (get_put_one _ _)).mono ?_; rintro e w9 ⟨rfl, hb⟩; replace E := E.below hb; replace K0 := K0.trans (hb.mono K0.size); clear hb) | (go_at_call 42; refine (zzkeyBefore_any E r l s none 0 false (by omega) (by omega) (get_put_one _ _)).mono ?_; rintro e w10 ⟨rfl, hb⟩; replace E := E.below hb; replace K0 := K0.trans (hb.mono K0.size); clear hb) | (go_at_call 43; refine (zzsizes_any E).mono ?_; rintro e w11 ⟨rfl, hb⟩; replace E := E.below hb; replace K0 := K0.trans (hb.mono K0.size); clear hb))
  go_ret
  exact ⟨rfl, K0⟩

set_option maxHeartbeats 8000000 in
set_option maxRecDepth 10000 in
theorem first_nncd (r l : Int) (s : ByteArray) (e1 e2 : Int) (p1 : -9223372036854775808 ≤ e1) (p1' : e1 ≤ 9223372036854775807) (p2 : -9223372036854775808 ≤ e2) (p2' : e2 ≤ 9223372036854775807) (w : World) (h : s.size ≤ 1048576) :
    Calls Try.prog 8 #[.int .i64 r, .int .i64 l, .string s, .pointer none, .pointer none, .bool true, .int .i64 e1, .bool false, .int .i64 e2] w fun e w' => e = .returned (.bool true) ∧ Below w.heap.size w w' := by
  have h1 : (s.size : Int) ≤ 1048576 := by omega
  have HG : Hid ((Mp.get Key.same ⟨r, l, s⟩ (put Key.same ⟨r, l, s⟩ (T e1) [])).getD (T 0) = T e1) := by show (Mp.get Key.same ⟨r, l, s⟩ (put Key.same ⟨r, l, s⟩ (T e1) [])).getD (T 0) = _; rw [get_put_one]; rfl
  have HO : Hid ((Mp.get Key.same ⟨r, l, s⟩ (put Key.same ⟨r, l, s⟩ (T e1) [])).isSome = true) := by show (Mp.get Key.same ⟨r, l, s⟩ (put Key.same ⟨r, l, s⟩ (T e1) [])).isSome = _; rw [get_put_one]; rfl
  have K0 : Below w.heap.size w w := Below.refl _ _
  have MARK : Stage 0 := ⟨trivial⟩
  go_enter Try.func8, Try.ntmps8
  go_wp2_with (first | (go_at_call 47; refine (bytes47_nn_yes _ _ _ _ _ _ _ _ h).mono ?_; rintro e v0 ⟨rfl, rfl⟩) | (go_at_call_of 35 (Value.pointer none); refine (alarmBytes_nil _).mono ?_; rintro e v1 ⟨rfl, rfl⟩) | (go_at_call_of 36 (Value.pointer none); refine (copyArg_none _).mono ?_; rintro e v2 ⟨rfl, rfl⟩) | (go_at_call 37; refine (zzengine1_any _ _ _ _ _).mono ?_; rintro e w2 ⟨rfl, hb, E, hlv⟩; have KB := K0.size; replace K0 := K0.trans (hb.mono K0.size); clear hb hlv) | (go_at_call_of 38 (Value.int IntKind.i64 e1); refine (zzset_any E r l s e1 p1 p1').mono ?_; rintro e w3 ⟨rfl, hg, hm⟩; replace E := E.setCool hg hm; have KD := K0.size; replace K0 := K0.grown hg K0.size (fun k hk => by have := Option.some.inj hk; omega); clear hm hg) | (go_at_call 39; refine (noAlarm _).mono ?_; rintro e v3 ⟨rfl, rfl⟩) | (go_at_call 41; have _ : Stage 0 := MARK; refine (zzremember_nil E r l s e1 true rfl (by exact HG.out) (by exact HO.out)).mono ?_; rintro e w5 ⟨rfl, hg, hm⟩; replace E := Eng.setKeys E hg hm; have KE := K0.size; replace K0 := K0.grown hg K0.size (fun k hk => by have := Option.some.inj hk; omega); clear hm hg; replace MARK : Stage 1 := ⟨trivial⟩) | (go_at_call 48; refine (zzdelete_any E r l s).mono ?_; rintro e w6 ⟨rfl, hg, hm⟩; have M2 := E.lt; replace E := E.setCool hg hm; have KF := K0.size; replace K0 := K0.grown hg K0.size (fun k hk => by have := Option.some.inj hk; omega); clear hm hg) | (go_at_call 39; refine (noAlarm _).mono ?_; rintro e v4 ⟨rfl, rfl⟩) | (go_at_call 41; have _ : Stage 1 := MARK; refine (zzremember_again E r l s _ none e1 true (get_put_one _ _)).mono ?_; rintro e w9 ⟨rfl, hb⟩; replace E := E.below hb; replace K0 := K0.trans (hb.mono K0.size); clear hb) | (go_at_call 42; refine (zzkeyBefore_any E r l s none e1 true p1 p1' (get_put_one _ _)).mono ?_; rintro e w10 ⟨rfl, hb⟩; replace E := E.below hb; replace K0 := K0.trans (hb.mono K0.size); clear hb) | (go_at_call 43; refine (zzsizes_any E).mono ?_; rintro e w11 ⟨rfl, hb⟩; replace E := E.below hb; replace K0 := K0.trans (hb.mono K0.size); clear hb))
  go_ret
  exact ⟨rfl, K0⟩

set_option maxHeartbeats 8000000 in
set_option maxRecDepth 10000 in
theorem first_nncc (r l : Int) (s : ByteArray) (e1 e2 : Int) (p1 : -9223372036854775808 ≤ e1) (p1' : e1 ≤ 9223372036854775807) (p2 : -9223372036854775808 ≤ e2) (p2' : e2 ≤ 9223372036854775807) (w : World) (h : s.size ≤ 1048576) :
    Calls Try.prog 8 #[.int .i64 r, .int .i64 l, .string s, .pointer none, .pointer none, .bool true, .int .i64 e1, .bool true, .int .i64 e2] w fun e w' => e = .returned (.bool true) ∧ Below w.heap.size w w' := by
  have h1 : (s.size : Int) ≤ 1048576 := by omega
  have HG : Hid ((Mp.get Key.same ⟨r, l, s⟩ (put Key.same ⟨r, l, s⟩ (T e1) [])).getD (T 0) = T e1) := by show (Mp.get Key.same ⟨r, l, s⟩ (put Key.same ⟨r, l, s⟩ (T e1) [])).getD (T 0) = _; rw [get_put_one]; rfl
  have HO : Hid ((Mp.get Key.same ⟨r, l, s⟩ (put Key.same ⟨r, l, s⟩ (T e1) [])).isSome = true) := by show (Mp.get Key.same ⟨r, l, s⟩ (put Key.same ⟨r, l, s⟩ (T e1) [])).isSome = _; rw [get_put_one]; rfl
  have K0 : Below w.heap.size w w := Below.refl _ _
  have MARK : Stage 0 := ⟨trivial⟩
  go_enter Try.func8, Try.ntmps8
  go_wp2_with (first | (go_at_call 47; refine (bytes47_nn_yes _ _ _ _ _ _ _ _ h).mono ?_; rintro e v0 ⟨rfl, rfl⟩) | (go_at_call_of 35 (Value.pointer none); refine (alarmBytes_nil _).mono ?_; rintro e v1 ⟨rfl, rfl⟩) | (go_at_call_of 36 (Value.pointer none); refine (copyArg_none _).mono ?_; rintro e v2 ⟨rfl, rfl⟩) | (go_at_call 37; refine (zzengine1_any _ _ _ _ _).mono ?_; rintro e w2 ⟨rfl, hb, E, hlv⟩; have KB := K0.size; replace K0 := K0.trans (hb.mono K0.size); clear hb hlv) | (go_at_call_of 38 (Value.int IntKind.i64 e1); refine (zzset_any E r l s e1 p1 p1').mono ?_; rintro e w3 ⟨rfl, hg, hm⟩; replace E := E.setCool hg hm; have KD := K0.size; replace K0 := K0.grown hg K0.size (fun k hk => by have := Option.some.inj hk; omega); clear hm hg) | (go_at_call 39; refine (noAlarm _).mono ?_; rintro e v3 ⟨rfl, rfl⟩) | (go_at_call 41; have _ : Stage 0 := MARK; refine (zzremember_nil E r l s e1 true rfl (by exact HG.out) (by exact HO.out)).mono ?_; rintro e w5 ⟨rfl, hg, hm⟩; replace E := Eng.setKeys E hg hm; have KE := K0.size; replace K0 := K0.grown hg K0.size (fun k hk => by have := Option.some.inj hk; omega); clear hm hg; replace MARK : Stage 1 := ⟨trivial⟩) | (go_at_call_of 38 (Value.int IntKind.i64 e2); refine (zzset_any E r l s e2 p2 p2').mono ?_; rintro e w6 ⟨rfl, hg, hm⟩; have M2 := E.lt; replace E := E.setCool hg hm; have KF := K0.size; replace K0 := K0.grown hg K0.size (fun k hk => by have := Option.some.inj hk; omega); clear hm hg) | (go_at_call 39; refine (noAlarm _).mono ?_; rintro e v4 ⟨rfl, rfl⟩) | (go_at_call 41; have _ : Stage 1 := MARK; refine (zzremember_again E r l s _ none e1 true (get_put_one _ _)).mono ?_; rintro e w9 ⟨rfl, hb⟩; replace E := E.below hb; replace K0 := K0.trans (hb.mono K0.size); clear hb) | (go_at_call 42; refine (zzkeyBefore_any E r l s none e1 true p1 p1' (get_put_one _ _)).mono ?_; rintro e w10 ⟨rfl, hb⟩; replace E := E.below hb; replace K0 := K0.trans (hb.mono K0.size); clear hb) | (go_at_call 43; refine (zzsizes_any E).mono ?_; rintro e w11 ⟨rfl, hb⟩; replace E := E.below hb; replace K0 := K0.trans (hb.mono K0.size); clear hb))
  go_ret
  exact ⟨rfl, K0⟩

end Go.Proofs.Qxb6605676a.Rm
