import Derived.Test.Qxb6605676aKz41
import Derived.Test.Qxb6605676aKz14
import Derived.Test.Qxb6605676aKz27
import Derived.Deep.RegionHeld3
import Derived.OwnWalk
namespace Go.Proofs.Qxb6605676a.Kz
set_option linter.unusedVariables false
set_option linter.unusedSimpArgs false
open Go.RowKit Go.Proofs.Qxb6605676a.Mp Go.Proofs.Qxb6605676a.Tm Go.Proofs.Qxb6605676a.En
open Go.ChangeMaps (setBlock heap_setBlock_same)

section
variable {w : World} {mb rb nr : Nat} {rs : Array Value} {A C KB : List (Key × Value)} {LS SB : List ((ByteArray × ByteArray) × Value)}

set_option maxHeartbeats 1600000 in
theorem fire_lt (E : Eng w mb rb nr rs A C KB LS SB) (i n lb : Nat) (s st : ByteArray) (ab : Nat) (hg : get Key.same ⟨i, 0, s⟩ A = some (.pointer (some ⟨ab, 0, none⟩))) (hc : w.cell? ⟨ab, 0, none⟩ = some (.string st)) (hst : (st.toList == [70, 73, 82, 73, 78, 71]) = true)
    (hi : i < nr) (hr : w.cell? ⟨rb, i * 6 + 2, none⟩ = some (.slice (some ⟨lb, 0, none⟩) n n)) (hn : n ≤ 1000) (hn0 : 0 < n)
    (hall : ∀ l : Int, get Key.same ⟨i, l, s⟩ A = none ∨ ∃ ab st, get Key.same ⟨i, l, s⟩ A = some (.pointer (some ⟨ab, 0, none⟩)) ∧ w.cell? ⟨ab, 0, none⟩ = some (.string st)) :
    Calls Try.prog 59 #[.pointer (some ⟨mb + 5, 0, none⟩), .agg #[.int .i64 i, .int .i64 0, .string s]] w fun e w' => (∃ m : Nat, m < n ∧ e = .returned (.int .i64 m)) ∧ Below w.heap.size w w' := by
  obtain ⟨c0, c2, c3, c4, c5, c6⟩ := E.cells
  have hlt := E.lt
  have hrl : rb < w.heap.size := World.block_lt_of_cell? w _ hr
  have hlook := fun (o : Obj) nq => (E.alarms.of_block (w' := (w.alloc o).drewN nq) (by show (w.alloc o).heap[mb]? = w.heap[mb]?; exact heap_alloc_old w o (by omega))).look keyTy134 Try.underlying114 (z := .pointer none) (fun w => by kernel_rfl) ⟨i, 0, s⟩ false
  simp only [hg, kv, Option.getD_some, Bool.false_eq_true, if_false] at hlook
  have hab : ab < w.heap.size := World.block_lt_of_cell? w _ hc
  have HE : Hid (Eng w mb rb nr rs A C KB LS SB) := E
  have HA : Hid (∀ l : Int, get Key.same ⟨i, l, s⟩ A = none ∨ ∃ ab st, get Key.same ⟨i, l, s⟩ A = some (.pointer (some ⟨ab, 0, none⟩)) ∧ w.cell? ⟨ab, 0, none⟩ = some (.string st)) := hall
  clear E hg hall
  go_enter Try.func59, Try.ntmps59
  go_wp2
  go_quiet (fail)
  go_wp2
  go_quiet (fail)
  go_wp2
  go_loopw [6] (fun x wr => ∃ m : Int, x = .int .i64 m ∧ -1 ≤ m ∧ m < n ∧ Below w.heap.size w wr ∧ wr.cell? ⟨w.heap.size, 0, none⟩ = some (.int .i64 i) ∧ wr.cell? ⟨w.heap.size, 2, none⟩ = some (.string s)) (fun x _ => (intOf x + 1).toNat)
  case atStart => exact ⟨n - 1, rfl, by omega, by omega, below_drewN (below_drewN ((Below.refl _ _).alloc (Nat.le_refl _) _) _) _, new_cell _ _ rfl _ _, new_cell _ _ rfl _ _⟩
  case round =>
    obtain ⟨m, rfl, hm1, hm2, hb, d0, d2⟩ := hrel
    by_cases hm : 0 < m
    · have e2 : wr.cell? ⟨mb + 5, 2, none⟩ = some (.map (some mb)) := by rw [hb.cell hlt]; exact c2
      have hlook2 := fun nq => (HE.out.alarms.of_block (w' := wr.drewN nq) (by show wr.heap[mb]? = w.heap[mb]?; exact hb.block mb (by omega))).look keyTy134 Try.underlying114 (z := .pointer none) (fun w => by kernel_rfl) ⟨i, m, s⟩ false
      clear hlook
      rcases HA.out m with hgm | ⟨ab2, st2, hgm, hc2⟩
      · simp only [hgm, kv, Option.getD_none, Bool.false_eq_true, if_false] at hlook2
        clear hgm
        go_wp2
        go_quiet (fail)
        go_wp2
        exact ⟨⟨m - 1, by go_num, by omega, by omega, below_drewN hb _, d0, d2⟩, by simp [intOf]; omega⟩
      · simp only [hgm, kv, Option.getD_some, Bool.false_eq_true, if_false] at hlook2
        have hc3 : wr.cell? ⟨ab2, 0, none⟩ = some (.string st2) := by rw [hb.cell (World.block_lt_of_cell? w _ hc2)]; exact hc2
        clear hgm
        by_cases hs2 : (st2.toList == [70, 73, 82, 73, 78, 71]) = true
        · go_wp2
          go_quiet (fail)
          go_wp2
          go_ret
          exact ⟨⟨m.toNat, by omega, by rw [Int.toNat_of_nonneg (by omega)]; rfl⟩, below_drewN hb _⟩
        · have hs3 : (st2.toList == [70, 73, 82, 73, 78, 71]) = false := by simpa using hs2
          clear hs2
          go_wp2
          go_quiet (fail)
          go_wp2
          exact ⟨⟨m - 1, by go_num, by omega, by omega, below_drewN hb _, d0, d2⟩, by simp [intOf]; omega⟩
    · go_wp2
      go_ret
      exact ⟨⟨0, hn0, rfl⟩, hb⟩
end

/-- The engine as Active finds it. -/
structure AcE (mb rb : Nat) (rs : Array Value) (R : List RuleD) (K : List ZK) (ptrs : List Nat) (C KB : List (Key × Value)) (LS SB : List ((ByteArray × ByteArray) × Value)) (W : World) : Prop where
  eng : Eng W mb rb R.length rs (alMap R (K.zip ptrs)) C KB LS SB
  rules : RulesIn W mb rb R
  ptr : ∀ q ab, (q, ab) ∈ K.zip ptrs → (keyA R q).isSome = true → W.heap[ab]? = some (Obj.cells (alCells q) 136)
section
variable {mb rb : Nat} {rs : Array Value} {R : List RuleD} {K : List ZK} {ptrs : List Nat} {C KB : List (Key × Value)} {LS SB : List ((ByteArray × ByteArray) × Value)} {W W' : World}
theorem AcE.below (h : AcE mb rb rs R K ptrs C KB LS SB W) (hb : Below W.heap.size W W') : AcE mb rb rs R K ptrs C KB LS SB W' :=
  ⟨h.eng.below hb, h.rules.below hb, fun q ab hq hk => by
    have := h.ptr q ab hq hk
    rw [hb.block ab (Array.getElem?_eq_some_iff.1 this).1]
    exact this⟩

/-- What firingLevel says of a key. -/
theorem AcE.fire (h : AcE mb rb rs R K ptrs C KB LS SB W) (hpl : ptrs.length = K.length) (i : Nat) (r : RuleD) (hr : R[i]? = some r) (hr0 : 0 < r.sevs.length) (hr1 : r.sevs.length ≤ 1000) (s : ByteArray) :
    Calls Try.prog 59 #[.pointer (some ⟨mb + 5, 0, none⟩), .agg #[.int .i64 i, .int .i64 0, .string s]] W fun e w' => (e = .returned (.int .i64 (-1)) ∨ ∃ m : Nat, m < r.sevs.length ∧ e = .returned (.int .i64 m)) ∧ Below W.heap.size W w' := by
  have hlook := fun (l' : Int) => alarm_look R K ptrs hpl i l' s (by omega)
  have hptr : ∀ l', ¬ lastTo (alarmAt R K i l' s) K.length < 0 → W.cell? ⟨ptrs.getD (lastTo (alarmAt R K i l' s) K.length).toNat 0, 0, none⟩ = some (.string (K.getD (lastTo (alarmAt R K i l' s) K.length).toNat noKey).state) := by
    intro l' hn
    have hlt := lastTo_lt (alarmAt R K i l' s) K.length
    have hat := lastTo_at (alarmAt R K i l' s) K.length (by omega)
    have ha : (lastTo (alarmAt R K i l' s) K.length).toNat < K.length := by omega
    generalize (lastTo (alarmAt R K i l' s) K.length).toNat = a at *
    rw [getD_at ptrs 0 a (by omega), getD_at K noKey a ha]
    have hmem : (K[a], ptrs[a]) ∈ K.zip ptrs := by
      have : (K.zip ptrs)[a]? = some (K[a], ptrs[a]) := by rw [List.getElem?_eq_getElem (by simp; omega)]; simp
      exact List.mem_of_getElem? this
    have hk : (keyA R K[a]).isSome = true := by
      unfold alarmAt at hat
      rw [getD_at K noKey a ha, ← keyA_same R K[a] i l' s (by omega)] at hat
      cases hka : keyA R K[a] with
      | none => rw [hka] at hat; simp at hat
      | some _ => rfl
    have := h.ptr _ _ hmem hk
    simp [World.cell?, this, alCells]
  by_cases h0 : lastTo (alarmAt R K i 0 s) K.length < 0
  · have hg := hlook 0
    rw [if_pos h0] at hg
    exact (firing_none h.eng i s hg).mono fun e w' hh => ⟨.inl hh.1, hh.2⟩
  · have hg := hlook 0
    rw [if_neg h0] at hg
    have hc := hptr 0 h0
    by_cases hst : ((K.getD (lastTo (alarmAt R K i 0 s) K.length).toNat noKey).state.toList == [70, 73, 82, 73, 78, 71]) = true
    · obtain ⟨lb, f, g, k, _, _, d2, _, _, _, _, _⟩ := h.rules i r hr
      have hi : i < R.length := (List.getElem?_eq_some_iff.1 hr).1
      refine (fire_lt h.eng i r.sevs.length lb s _ _ hg hc hst hi d2 hr1 hr0 ?_).mono fun e w' hh => ⟨.inr hh.1, hh.2⟩
      intro l'
      have hg' := hlook l'
      by_cases h1 : lastTo (alarmAt R K i l' s) K.length < 0
      · rw [if_pos h1] at hg'; exact .inl hg'
      · rw [if_neg h1] at hg'; exact .inr ⟨_, _, hg', hptr l' h1⟩
    · exact (firing_other h.eng i s _ _ hg hc (by simpa using hst)).mono fun e w' hh => ⟨.inl hh.1, hh.2⟩

theorem alCells_at {q : ZK} {ab : Nat} (h : W.heap[ab]? = some (Obj.cells (alCells q) 136)) : W.rangeAt ab 0 (alCells q).toList := by
  intro j v hv
  have : (alCells q)[j]? = some v := by simpa using hv
  simp [World.cell?, h, this]
end
end Go.Proofs.Qxb6605676a.Kz
