import Derived.Test.Qxb6605676aRm7
import Derived.Test.Qxb6605676aMf7
import Derived.LaidEqlPtr
namespace Go.Proofs.Qxb6605676a.Rm
set_option linter.unusedVariables false
set_option linter.unusedSimpArgs false
open Go.RowKit Go.Proofs.Qxb6605676a.Mp Go.Proofs.Qxb6605676a.Tm Go.Proofs.Qxb6605676a.En
open Go.ChangeMaps (setBlock heap_setBlock_same)

theorem same_refl (k : Key) : k.same k = true := (same_iff k k).2 rfl
theorem get_put_one (k : Key) (v : Value) : Mp.get Key.same k (put Key.same k v []) = some v := by simp [Mp.get, put, same_refl]
theorem put_len (k : Key) (v : Value) : (put Key.same k v []).length = 1 := rfl

theorem cell_of_alarm {w : World} {b : Nat} {z : ZAl} (h : w.heap[b]? = some (.cells (alarmCells z) 136)) : w.cell? ⟨b, 0, none⟩ = some (.string z.st) := by simp [World.cell?, h, alarmCells]

theorem alarm_below {w w' : World} {b : Nat} {z : ZAl} (h : w.heap[b]? = some (.cells (alarmCells z) 136)) (hb : Below w.heap.size w w') : w'.heap[b]? = some (.cells (alarmCells z) 136) :=
  (hb.block b (Array.getElem?_eq_some_iff.1 h).1).trans h

theorem alarm_grown {w w' : World} {b m : Nat} {z : ZAl} (h : w.heap[b]? = some (.cells (alarmCells z) 136)) (hg : w.grownBy w' (some m)) (hne : b ≠ m) : w'.heap[b]? = some (.cells (alarmCells z) 136) :=
  (hg.block b (Array.getElem?_eq_some_iff.1 h).1 (fun e => hne (Option.some.inj e))).trans h

theorem info136 : ∃ j, Try.prog.info? 136 = some j ∧ j.size ≠ 0 := by
  have h : (Try.prog.info? 136).any (fun j => j.size != 0) = true := by kernel_rfl
  cases hj : Try.prog.info? 136 with
  | none => rw [hj] at h; cases h
  | some j => rw [hj] at h; exact ⟨j, rfl, by simpa using h⟩

theorem ptrs_differ (w : World) (a b : Nat) (z z' : ZAl) (hne : a ≠ b) (ha : w.heap[a]? = some (.cells (alarmCells z) 136)) (hb : w.heap[b]? = some (.cells (alarmCells z') 136)) :
    (binOp .eql 82 (.pointer (some ⟨a, 0, none⟩)) (.pointer (some ⟨b, 0, none⟩))).run Try.prog w = .ok (.bool false) w := by
  obtain ⟨j, hj, hs⟩ := info136
  exact run_eql_ptr_other w Try.underlying82 hj hs (fun e => hne (congrArg Addr.block e)) ha hb

section
variable {w w' : World} {mb rb nr : Nat} {rs : Array Value} {A C KB : List (Key × Value)} {LS SB : List ((ByteArray × ByteArray) × Value)}
theorem Eng.setKeys (E : Eng w mb rb nr rs A C KB LS SB) (hg : w.grownBy w' (some (mb + 3))) {KB' : List (Key × Value)} (hm : MapIs w' (mb + 3) kv KB') : Eng w' mb rb nr rs A C KB' LS SB := by
  have hl := E.low
  have hlt := E.lt
  have hk : ∀ k, k < mb + 6 → k ≠ mb + 3 → w'.heap[k]? = w.heap[k]? := fun k h1 h2 => hg.block k (by omega) (fun e => h2 (Option.some.inj e))
  refine ⟨hl, ?_, ?_, E.alarms.of_block (hk _ (by omega) (by omega)), E.last.of_block (hk _ (by omega) (by omega)), E.cool.of_block (hk _ (by omega) (by omega)), hm, E.ser.of_block (hk _ (by omega) (by omega))⟩
  · obtain ⟨r, hr⟩ := E.eng
    exact ⟨r, by rw [hk _ (by omega) (by omega)]; exact hr⟩
  · rw [hk _ (by omega) (by omega)]; exact E.rul
end

set_option maxHeartbeats 1000000 in
set_option maxRecDepth 10000 in
theorem copy_nil_calm (r l : Int) (s : ByteArray) (x : Int) (hx : -9223372036854775808 ≤ x) (hx' : x ≤ 9223372036854775807) (w : World) (h : s.size ≤ 1048576) :
    Calls Try.prog 7 #[.int .i64 r, .int .i64 l, .string s, .pointer none, .bool false, .int .i64 x] w fun e w' => e = .returned (.bool true) ∧ Below w.heap.size w w' := by
  have h1 : (s.size : Int) ≤ 1048576 := by omega
  have HG : Hid ((Mp.get Key.same ⟨r, l, s⟩ ([] : List (Key × Value))).getD (T 0) = T 0) := rfl
  have HO : Hid ((Mp.get Key.same ⟨r, l, s⟩ ([] : List (Key × Value))).isSome = false) := rfl
  go_enter Try.func7, Try.ntmps7
  go_wp2_with (first | (go_at_call 34; refine (bytes34_nil_yes _ _ _ _ _ _ h).mono ?_; rintro e w1 ⟨rfl, rfl⟩) | (go_at_call 35; refine (alarmBytes_nil _).mono ?_; rintro e w1 ⟨rfl, rfl⟩) | (go_at_call 36; refine (copyArg_nil _).mono ?_; rintro e w1 ⟨rfl, hb1⟩) | (go_at_call 37; refine (zzengine1_any _ _ _ _ _).mono ?_; rintro e w2 ⟨rfl, hb2, E2, _⟩) | (go_at_call 39; refine (noAlarm _).mono ?_; rintro e wq ⟨rfl, rfl⟩) | (go_at_call 41; refine (zzremember_nil E2 r l s 0 false rfl (by exact HG.out) (by exact HO.out)).mono ?_; rintro e w6 ⟨rfl, hg6, hm6⟩; have E6 := Eng.setKeys E2 hg6 hm6; clear hm6) | (go_at_call 42; refine (zzkeyBefore_any E6 r l s _ 0 false (by omega) (by omega) (get_put_one _ _)).mono ?_; rintro e w7 ⟨rfl, hb7⟩) | (go_at_call 43; refine (zzsizes_any (E6.below hb7)).mono ?_; rintro e w8 ⟨rfl, hb8⟩) | (go_at_call 44; refine (zzcoolat_any ((E6.below hb7).below hb8) r l s 0 (by omega) (by omega) false (by exact HG.out) (by exact HO.out)).mono ?_; rintro e w9 ⟨rfl, hb9⟩))
  go_ret
  refine ⟨rfl, ?_⟩
  have z1 := hb1.size
  have z2 := hb2.size
  have z6 := hg6.size
  have z7 := hb7.size
  have z8 := hb8.size
  have k2 := hb1.trans (hb2.mono z1)
  have k6 := k2.grown hg6 (by omega) (fun k hk => by have := Option.some.inj hk; omega)
  exact ((k6.trans (hb7.mono (by omega))).trans (hb8.mono (by omega))).trans (hb9.mono (by omega))

set_option maxHeartbeats 1000000 in
set_option maxRecDepth 10000 in
theorem copy_nil_cool (r l : Int) (s : ByteArray) (x : Int) (hx : -9223372036854775808 ≤ x) (hx' : x ≤ 9223372036854775807) (w : World) (h : s.size ≤ 1048576) :
    Calls Try.prog 7 #[.int .i64 r, .int .i64 l, .string s, .pointer none, .bool true, .int .i64 x] w fun e w' => e = .returned (.bool true) ∧ Below w.heap.size w w' := by
  have h1 : (s.size : Int) ≤ 1048576 := by omega
  have HG : Hid ((Mp.get Key.same ⟨r, l, s⟩ (put Key.same ⟨r, l, s⟩ (T x) [])).getD (T 0) = T x) := by show (Mp.get Key.same ⟨r, l, s⟩ (put Key.same ⟨r, l, s⟩ (T x) [])).getD (T 0) = _; rw [get_put_one]; rfl
  have HO : Hid ((Mp.get Key.same ⟨r, l, s⟩ (put Key.same ⟨r, l, s⟩ (T x) [])).isSome = true) := by show (Mp.get Key.same ⟨r, l, s⟩ (put Key.same ⟨r, l, s⟩ (T x) [])).isSome = _; rw [get_put_one]; rfl
  go_enter Try.func7, Try.ntmps7
  go_wp2_with (first | (go_at_call 34; refine (bytes34_nil_yes _ _ _ _ _ _ h).mono ?_; rintro e w1 ⟨rfl, rfl⟩) | (go_at_call 35; refine (alarmBytes_nil _).mono ?_; rintro e w1 ⟨rfl, rfl⟩) | (go_at_call 36; refine (copyArg_nil _).mono ?_; rintro e w1 ⟨rfl, hb1⟩) | (go_at_call 37; refine (zzengine1_any _ _ _ _ _).mono ?_; rintro e w2 ⟨rfl, hb2, E2, _⟩) | (go_at_call 38; refine (zzset_any E2 r l s x hx hx').mono ?_; rintro e w3 ⟨rfl, hg3, hm3⟩; have E3 := E2.setCool hg3 hm3; clear hm3) | (go_at_call 39; refine (noAlarm _).mono ?_; rintro e wq ⟨rfl, rfl⟩) | (go_at_call 41; refine (zzremember_nil E3 r l s x true rfl (by exact HG.out) (by exact HO.out)).mono ?_; rintro e w6 ⟨rfl, hg6, hm6⟩; have E6 := Eng.setKeys E3 hg6 hm6; clear hm6) | (go_at_call 42; refine (zzkeyBefore_any E6 r l s _ x true hx hx' (get_put_one _ _)).mono ?_; rintro e w7 ⟨rfl, hb7⟩) | (go_at_call 43; refine (zzsizes_any (E6.below hb7)).mono ?_; rintro e w8 ⟨rfl, hb8⟩) | (go_at_call 44; refine (zzcoolat_any ((E6.below hb7).below hb8) r l s x hx hx' true (by exact HG.out) (by exact HO.out)).mono ?_; rintro e w9 ⟨rfl, hb9⟩))
  go_ret
  refine ⟨rfl, ?_⟩
  have z1 := hb1.size
  have z2 := hb2.size
  have z6 := hg6.size
  have z7 := hb7.size
  have z8 := hb8.size
  have k2 := hb1.trans (hb2.mono z1)
  have z3 := hg3.size
  have k3 := k2.grown hg3 (by omega) (fun k hk => by have := Option.some.inj hk; omega)
  have k6 := k3.grown hg6 (by omega) (fun k hk => by have := Option.some.inj hk; omega)
  exact ((k6.trans (hb7.mono (by omega))).trans (hb8.mono (by omega))).trans (hb9.mono (by omega))

set_option maxHeartbeats 4000000 in
set_option maxRecDepth 10000 in
theorem copy_some_calm (r l : Int) (s : ByteArray) (b o : Nat) (z : ZAl) (hok : z.Ok) (x : Int) (hx : -9223372036854775808 ≤ x) (hx' : x ≤ 9223372036854775807) (w : World) (hz : ZAt w b o z) (h : s.size + z.st.size + z.ls.size + z.lm.size ≤ 1048576) :
    Calls Try.prog 7 #[.int .i64 r, .int .i64 l, .string s, .pointer (some ⟨b, o, none⟩), .bool false, .int .i64 x] w fun e w' => e = .returned (.bool true) ∧ Below w.heap.size w w' := by
  have h1 : (s.size : Int) + z.st.size + z.ls.size + z.lm.size ≤ 1048576 := by omega
  have HG : Hid ((Mp.get Key.same ⟨r, l, s⟩ ([] : List (Key × Value))).getD (T 0) = T 0) := rfl
  have HO : Hid ((Mp.get Key.same ⟨r, l, s⟩ ([] : List (Key × Value))).isSome = false) := rfl
  go_enter Try.func7, Try.ntmps7
  go_wp2_with (first | (go_at_call 34; refine (bytes34_some_yes _ _ _ _ _ _ _ _ _ hz h).mono ?_; rintro e w1 ⟨rfl, rfl⟩) | (go_at_call 35; refine (alarmBytes_some _ _ _ _ hz (by omega) (by omega) (by omega)).mono ?_; rintro e w0 ⟨rfl, hb0⟩; have hz0 := hz.below hb0; clear hz) | (go_at_call 36; refine (copyArg_some _ _ _ _ hz0).mono ?_; rintro e w1 ⟨rfl, hb1, hz1⟩; clear hz0) | (go_at_call 37; refine (zzengine1_any _ _ _ _ _).mono ?_; rintro e w2 ⟨rfl, hb2, E2, _⟩) | (go_at_call 39; refine (noAlarm _).mono ?_; rintro e wq ⟨rfl, rfl⟩))
  have HZ1 : Hid (ZAt w1 w0.heap.size 0 z) := hz1
  have hz2 := hz1.below hb2
  clear hz1
  have HZ : Hid (ZAt w2 w0.heap.size 0 z) := hz2
  obtain ⟨c0, c1, c2, c3, c4, c5, c6, c7⟩ := hz2
  simp only [Nat.zero_add] at c1 c2 c3 c4 c5 c6 c7
  have HN : Hid (∀ W : World, Calls Try.prog 40 #[.string z.st, .int .i64 z.since, .int .i64 z.lts, .string z.ls, .string z.lm, .float .f64 z.lv, .bool z.cl, .int .i64 z.cs] W fun e w' => ∃ b, W.heap.size ≤ b ∧ e = .returned (.pointer (some ⟨b, 0, none⟩)) ∧ Below W.heap.size W w' ∧ w'.heap[b]? = some (.cells (alarmCells z) 136)) := fun W => newAlarm_any z hok W
  go_region_held3 (fun W => W.cell? ⟨w0.heap.size, 0, none⟩ = some (.string z.st) ∧ W.cell? ⟨w0.heap.size, 1, none⟩ = some (.int .i64 z.since) ∧ W.cell? ⟨w0.heap.size, 2, none⟩ = some (.int .i64 z.lts) ∧ W.cell? ⟨w0.heap.size, 3, none⟩ = some (.string z.ls) ∧ W.cell? ⟨w0.heap.size, 4, none⟩ = some (.string z.lm) ∧ W.cell? ⟨w0.heap.size, 5, none⟩ = some (.float .f64 z.lv) ∧ W.cell? ⟨w0.heap.size, 6, none⟩ = some (.bool z.cl) ∧ W.cell? ⟨w0.heap.size, 7, none⟩ = some (.int .i64 z.cs)) (simp (maxDischargeDepth := 8) [*]) (first | (go_at_call 40; refine (HN.out _).mono ?_; rintro e w5 ⟨ab, hab, rfl, hb5, ha⟩; have kk5 := below_cell_some hb5))
  have hb5' : Below w2.heap.size w2 w5 := (Below.refl _ _).drew.trans hb5
  have E5 := E2.below hb5'
  have hz5 := HZ.out.below hb5'
  have z0 := hb0.size
  have z1 := hb1.size
  have z2 := hb2.size
  have k2 := (hb0.trans (hb1.mono z0)).trans (hb2.mono (by omega))
  have k3 := k2
  have k5 := k3.trans (hb5'.mono (by omega))
  have hlz : w0.heap.size < w1.heap.size := by have := World.block_lt_of_cell? _ _ HZ1.out.c0; exact this
  have hne : w0.heap.size ≠ w1.heap.size + 4 + 3 := by omega
  have hab' : w2.heap.size ≤ ab := hab
  have hElt := E2.lt
  have hnab : ab ≠ w1.heap.size + 4 + 3 := by omega
  have hlab : ab < w5.heap.size := World.block_lt_of_cell? _ ⟨ab, 0, none⟩ (cell_of_alarm ha)
  clear HN kk5 c0 c1 c2 c3 c4 c5 c6 c7 hb5 hb5' HZ HZ1 E2 hb0 hb1 hb2 k2 k3
  go_wp2_with (first | (go_at_call 41; refine (zzremember_some E5 r l s 0 false ab z ha rfl (by exact HG.out) (by exact HO.out)).mono ?_; rintro e w6 ⟨rfl, hg6, hm6, hh6⟩; have E6 := Eng.setKeys E5 hg6 hm6; clear hm6) | (go_at_call 42; refine (zzkeyBefore_any E6 r l s _ 0 false (by omega) (by omega) (get_put_one _ _)).mono ?_; rintro e w7 ⟨rfl, hb7⟩) | (go_at_call 43; refine (zzsizes_any (E6.below hb7)).mono ?_; rintro e w8 ⟨rfl, hb8⟩) | (go_at_call 44; refine (zzcoolat_any ((E6.below hb7).below hb8) r l s 0 (by omega) (by omega) false (by exact HG.out) (by exact HO.out)).mono ?_; rintro e w9 ⟨rfl, hb9⟩; have hh9 := alarm_below (alarm_below (alarm_below hh6 hb7) hb8) hb9; have hz9 := ((((hz5.grown hg6 hne).below hb7).below hb8).below hb9); have heq := ptrs_differ w9 (w5.heap.size + 3) ab z z (by omega) hh9 (alarm_below (alarm_below (alarm_below (alarm_grown ha hg6 hnab) hb7) hb8) hb9)) | (go_at_call 45; refine (alarmFields_any z hok _ _ hh9).mono ?_; rintro e w10 ⟨rfl, hb10⟩) | (go_at_call 46; refine (fieldsAre_any z _ _ _ (hz9.below hb10)).mono ?_; rintro e w11 ⟨rfl, rfl⟩))
  go_ret
  refine ⟨rfl, ?_⟩
  have z6 := hg6.size
  have z7 := hb7.size
  have z8 := hb8.size
  have z9 := hb9.size
  have z5 := k5.size
  have k6 := k5.grown hg6 z5 (fun k hk => by have := Option.some.inj hk; omega)
  exact (((k6.trans (hb7.mono (by omega))).trans (hb8.mono (by omega))).trans (hb9.mono (by omega))).trans (hb10.mono (by omega))

set_option maxHeartbeats 4000000 in
set_option maxRecDepth 10000 in
theorem copy_some_cool (r l : Int) (s : ByteArray) (b o : Nat) (z : ZAl) (hok : z.Ok) (x : Int) (hx : -9223372036854775808 ≤ x) (hx' : x ≤ 9223372036854775807) (w : World) (hz : ZAt w b o z) (h : s.size + z.st.size + z.ls.size + z.lm.size ≤ 1048576) :
    Calls Try.prog 7 #[.int .i64 r, .int .i64 l, .string s, .pointer (some ⟨b, o, none⟩), .bool true, .int .i64 x] w fun e w' => e = .returned (.bool true) ∧ Below w.heap.size w w' := by
  have h1 : (s.size : Int) + z.st.size + z.ls.size + z.lm.size ≤ 1048576 := by omega
  have HG : Hid ((Mp.get Key.same ⟨r, l, s⟩ (put Key.same ⟨r, l, s⟩ (T x) [])).getD (T 0) = T x) := by show (Mp.get Key.same ⟨r, l, s⟩ (put Key.same ⟨r, l, s⟩ (T x) [])).getD (T 0) = _; rw [get_put_one]; rfl
  have HO : Hid ((Mp.get Key.same ⟨r, l, s⟩ (put Key.same ⟨r, l, s⟩ (T x) [])).isSome = true) := by show (Mp.get Key.same ⟨r, l, s⟩ (put Key.same ⟨r, l, s⟩ (T x) [])).isSome = _; rw [get_put_one]; rfl
  go_enter Try.func7, Try.ntmps7
  go_wp2_with (first | (go_at_call 34; refine (bytes34_some_yes _ _ _ _ _ _ _ _ _ hz h).mono ?_; rintro e w1 ⟨rfl, rfl⟩) | (go_at_call 35; refine (alarmBytes_some _ _ _ _ hz (by omega) (by omega) (by omega)).mono ?_; rintro e w0 ⟨rfl, hb0⟩; have hz0 := hz.below hb0; clear hz) | (go_at_call 36; refine (copyArg_some _ _ _ _ hz0).mono ?_; rintro e w1 ⟨rfl, hb1, hz1⟩; clear hz0) | (go_at_call 37; refine (zzengine1_any _ _ _ _ _).mono ?_; rintro e w2 ⟨rfl, hb2, E2, _⟩) | (go_at_call 38; refine (zzset_any E2 r l s x hx hx').mono ?_; rintro e w3 ⟨rfl, hg3, hm3⟩; have E3 := E2.setCool hg3 hm3; clear hm3) | (go_at_call 39; refine (noAlarm _).mono ?_; rintro e wq ⟨rfl, rfl⟩))
  have HZ1 : Hid (ZAt w1 w0.heap.size 0 z) := hz1
  have hz2 := (hz1.below hb2).grown hg3 (by have := hb1.size; have := World.block_lt_of_cell? _ _ hz1.c0; omega)
  clear hz1
  have HZ : Hid (ZAt w3 w0.heap.size 0 z) := hz2
  obtain ⟨c0, c1, c2, c3, c4, c5, c6, c7⟩ := hz2
  simp only [Nat.zero_add] at c1 c2 c3 c4 c5 c6 c7
  have HN : Hid (∀ W : World, Calls Try.prog 40 #[.string z.st, .int .i64 z.since, .int .i64 z.lts, .string z.ls, .string z.lm, .float .f64 z.lv, .bool z.cl, .int .i64 z.cs] W fun e w' => ∃ b, W.heap.size ≤ b ∧ e = .returned (.pointer (some ⟨b, 0, none⟩)) ∧ Below W.heap.size W w' ∧ w'.heap[b]? = some (.cells (alarmCells z) 136)) := fun W => newAlarm_any z hok W
  go_region_held3 (fun W => W.cell? ⟨w0.heap.size, 0, none⟩ = some (.string z.st) ∧ W.cell? ⟨w0.heap.size, 1, none⟩ = some (.int .i64 z.since) ∧ W.cell? ⟨w0.heap.size, 2, none⟩ = some (.int .i64 z.lts) ∧ W.cell? ⟨w0.heap.size, 3, none⟩ = some (.string z.ls) ∧ W.cell? ⟨w0.heap.size, 4, none⟩ = some (.string z.lm) ∧ W.cell? ⟨w0.heap.size, 5, none⟩ = some (.float .f64 z.lv) ∧ W.cell? ⟨w0.heap.size, 6, none⟩ = some (.bool z.cl) ∧ W.cell? ⟨w0.heap.size, 7, none⟩ = some (.int .i64 z.cs)) (simp (maxDischargeDepth := 8) [*]) (first | (go_at_call 40; refine (HN.out _).mono ?_; rintro e w5 ⟨ab, hab, rfl, hb5, ha⟩; have kk5 := below_cell_some hb5))
  have hb5' : Below w3.heap.size w3 w5 := (Below.refl _ _).drew.trans hb5
  have E5 := E3.below hb5'
  have hz5 := HZ.out.below hb5'
  have z0 := hb0.size
  have z1 := hb1.size
  have z2 := hb2.size
  have k2 := (hb0.trans (hb1.mono z0)).trans (hb2.mono (by omega))
  have z3 := hg3.size
  have k3 := k2.grown hg3 (by omega) (fun k hk => by have := Option.some.inj hk; omega)
  have k5 := k3.trans (hb5'.mono (by omega))
  have hlz : w0.heap.size < w1.heap.size := by have := World.block_lt_of_cell? _ _ HZ1.out.c0; exact this
  have hne : w0.heap.size ≠ w1.heap.size + 4 + 3 := by omega
  have hab' : w3.heap.size ≤ ab := hab
  have hElt := E3.lt
  have hnab : ab ≠ w1.heap.size + 4 + 3 := by omega
  have hlab : ab < w5.heap.size := World.block_lt_of_cell? _ ⟨ab, 0, none⟩ (cell_of_alarm ha)
  clear HN kk5 c0 c1 c2 c3 c4 c5 c6 c7 hb5 hb5' HZ HZ1 E3 hb0 hb1 hb2 k2 k3 hg3
  go_wp2_with (first | (go_at_call 41; refine (zzremember_some E5 r l s x true ab z ha rfl (by exact HG.out) (by exact HO.out)).mono ?_; rintro e w6 ⟨rfl, hg6, hm6, hh6⟩; have E6 := Eng.setKeys E5 hg6 hm6; clear hm6) | (go_at_call 42; refine (zzkeyBefore_any E6 r l s _ x true hx hx' (get_put_one _ _)).mono ?_; rintro e w7 ⟨rfl, hb7⟩) | (go_at_call 43; refine (zzsizes_any (E6.below hb7)).mono ?_; rintro e w8 ⟨rfl, hb8⟩) | (go_at_call 44; refine (zzcoolat_any ((E6.below hb7).below hb8) r l s x hx hx' true (by exact HG.out) (by exact HO.out)).mono ?_; rintro e w9 ⟨rfl, hb9⟩; have hh9 := alarm_below (alarm_below (alarm_below hh6 hb7) hb8) hb9; have hz9 := ((((hz5.grown hg6 hne).below hb7).below hb8).below hb9); have heq := ptrs_differ w9 (w5.heap.size + 3) ab z z (by omega) hh9 (alarm_below (alarm_below (alarm_below (alarm_grown ha hg6 hnab) hb7) hb8) hb9)) | (go_at_call 45; refine (alarmFields_any z hok _ _ hh9).mono ?_; rintro e w10 ⟨rfl, hb10⟩) | (go_at_call 46; refine (fieldsAre_any z _ _ _ (hz9.below hb10)).mono ?_; rintro e w11 ⟨rfl, rfl⟩))
  go_ret
  refine ⟨rfl, ?_⟩
  have z6 := hg6.size
  have z7 := hb7.size
  have z8 := hb8.size
  have z9 := hb9.size
  have z5 := k5.size
  have k6 := k5.grown hg6 z5 (fun k hk => by have := Option.some.inj hk; omega)
  exact (((k6.trans (hb7.mono (by omega))).trans (hb8.mono (by omega))).trans (hb9.mono (by omega))).trans (hb10.mono (by omega))

end Go.Proofs.Qxb6605676a.Rm
