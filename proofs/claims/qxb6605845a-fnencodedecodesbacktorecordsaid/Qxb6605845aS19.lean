import Derived.Test.Qxb6605845aS18
namespace Go.Proofs.Qxb6605845a.Ec
set_option linter.unusedVariables false
set_option linter.unusedSimpArgs false
open Go.RowKit

/-- Where a new slice lies. -/
def NewAt (w w' : World) (ao : Option Addr) : Prop := ∀ a, ao = some a → w.heap.size ≤ a.block ∧ a.block < w'.heap.size

theorem cloneInts (L : List Int) (ao : Option Addr) (c : Nat) (w : World) (h : IArg w ao L) (hc : ao = none → c = 0) (hl : L.length ≤ 1048576) :
    Calls Try.prog 19 #[.slice ao L.length c] w fun e w' => ∃ ao' c', e = .returned (.slice ao' L.length c') ∧ IVal w' (.slice ao' L.length c') L ∧ NewAt w w' ao' ∧ Below w.heap.size w w' := by
  cases ao with
  | none =>
    obtain rfl := hc rfl
    have hL : L = [] := by rcases h with rfl | ⟨b, o, h, _⟩; rfl; cases h
    subst hL
    refine (cloneInts_nil w).mono ?_
    rintro e w' ⟨rfl, rfl⟩
    exact ⟨none, 0, rfl, .nil, (fun a h => by cases h), Below.refl _ _⟩
  | some a =>
    refine (cloneInts_some L a c w (h.imp id fun ⟨b, o, h1, h2⟩ => ⟨b, o, Option.some.inj h1, h2⟩) hl).mono ?_
    rintro e w' ⟨rfl, h1, h2, h3⟩
    exact ⟨_, _, rfl, .row _ L _ h1, (fun a h => by obtain rfl := Option.some.inj h; exact ⟨Nat.le_refl _, h3⟩), h2⟩

theorem cloneStrings (L : List ByteArray) (ao : Option Addr) (c : Nat) (w : World) (h : SArg w ao L) (hc : ao = none → c = 0) (hl : L.length ≤ 1048576) :
    Calls Try.prog 10 #[.slice ao L.length c] w fun e w' => ∃ ao' c', e = .returned (.slice ao' L.length c') ∧ SArg w' ao' L ∧ NewAt w w' ao' ∧ Below w.heap.size w w' := by
  cases ao with
  | none =>
    obtain rfl := hc rfl
    have hL : L = [] := by rcases h with rfl | ⟨b, o, h, _⟩; rfl; cases h
    subst hL
    refine (cloneStrings_nil w).mono ?_
    rintro e w' ⟨rfl, rfl⟩
    exact ⟨none, 0, rfl, .inl rfl, (fun a h => by cases h), Below.refl _ _⟩
  | some a =>
    refine (cloneStrings_some L a c w (h.imp id fun ⟨b, o, h1, h2⟩ => ⟨b, o, Option.some.inj h1, h2⟩) hl).mono ?_
    rintro e w' ⟨rfl, h1, h2, h3⟩
    exact ⟨_, _, rfl, .inr ⟨_, 0, rfl, h1⟩, (fun a h => by obtain rfl := Option.some.inj h; exact ⟨Nat.le_refl _, h3⟩), h2⟩

/-- A cloned slice of bytes: the value, and where it lies. -/
def BNew (w : World) (lo : Nat) (v : Value) (x : Option (List UInt8)) : Prop := BVal w v x ∧ ∀ a n c, v = .slice (some a) n c → lo ≤ a.block ∧ a.block < w.heap.size

theorem cloneBytes (v : Value) (x : Option (List UInt8)) (w : World) (h : BArg w v x) (hl : bsz x ≤ 1048576) :
    Calls Try.prog 30 #[v] w fun e w' => ∃ v', e = .returned v' ∧ BNew w' w.heap.size v' x ∧ Below w.heap.size w w' := by
  cases h with
  | nil =>
    refine (cloneBytes_nil w).mono ?_
    rintro e w' ⟨rfl, rfl⟩
    exact ⟨_, rfl, ⟨.nil, (fun a n c h => by cases h)⟩, Below.refl _ _⟩
  | emp a c =>
    refine (cloneBytes_some [] a c w (.inl rfl) (by simp)).mono ?_
    rintro e w' ⟨rfl, h1, h2, h3⟩
    exact ⟨_, rfl, ⟨.row _ [] _ h1, (fun a n c h => by injection h with h; obtain rfl := Option.some.inj h; exact ⟨Nat.le_refl _, h3⟩)⟩, h2⟩
  | row b o l c h =>
    refine (cloneBytes_some l ⟨b, o, none⟩ c w (.inr ⟨b, o, rfl, h⟩) hl).mono ?_
    rintro e w' ⟨rfl, h1, h2, h3⟩
    exact ⟨_, rfl, ⟨.row _ l _ h1, (fun a n c h => by injection h with h; obtain rfl := Option.some.inj h; exact ⟨Nat.le_refl _, h3⟩)⟩, h2⟩

theorem BArg.below {w w' : World} {v : Value} {x : Option (List UInt8)} (h : BArg w v x) (hb : Below w.heap.size w w') : BArg w' v x := by
  cases h with
  | nil => exact .nil
  | emp a c => exact .emp a c
  | row b o l c h => exact .row b o _ c (h.below hb)
theorem ValsAt.below {w w' : World} {b o : Nat} {L : List (Option (List UInt8))} (h : ValsAt w b o L) (hb : Below w.heap.size w w') : ValsAt w' b o L := by
  intro j x hx
  obtain ⟨v, h1, h2⟩ := h j x hx
  exact ⟨v, by rw [hb.cell (World.block_lt_of_cell? w _ h1)]; exact h1, h2.below hb⟩
theorem BNew.below {w w' : World} {v : Value} {x : Option (List UInt8)} {lo : Nat} (h : BNew w lo v x) (hb : Below w.heap.size w w') : BNew w' lo v x :=
  ⟨h.1.belowB hb (fun a n c e => (h.2 a n c e).2), fun a n c e => ⟨(h.2 a n c e).1, Nat.lt_of_lt_of_le (h.2 a n c e).2 hb.size⟩⟩
theorem BNew.setCell {w : World} {v : Value} {x : Option (List UInt8)} {lo : Nat} (h : BNew w lo v x) {p : Addr} (hp : p.block < lo) (u : Value) : BNew (w.setCell p u) lo v x := by
  refine ⟨?_, fun a n c e => ⟨(h.2 a n c e).1, by simpa using (h.2 a n c e).2⟩⟩
  obtain ⟨h1, h2⟩ := h
  cases h1 with
  | nil => exact .nil
  | row b L c hL =>
    refine .row b _ c ?_
    intro j z hz
    have hb := (h2 _ _ _ rfl).1
    simp only at hb
    rw [World.cell?_setCell_other w p _ u (by intro e; rw [e] at hp; simp at hp; omega)]
    exact hL j z hz

/-- The cloned values lie in block b; what they lead to lies from lo on. -/
def NewVals (w : World) (b lo : Nat) (L : List (Option (List UInt8))) : Prop := ∀ j x, L[j]? = some x → ∃ v, w.cell? ⟨b, j, none⟩ = some v ∧ BNew w lo v x
theorem NewVals.below {w w' : World} {b lo : Nat} {L : List (Option (List UInt8))} (h : NewVals w b lo L) (hb : Below w.heap.size w w') : NewVals w' b lo L := by
  intro j x hx
  obtain ⟨v, h1, h2⟩ := h j x hx
  exact ⟨v, by rw [hb.cell (World.block_lt_of_cell? w _ h1)]; exact h1, h2.below hb⟩
theorem NewVals.snoc {W : World} {b k : Nat} {L : List (Option (List UInt8))} {v : Value} (h : NewVals W b (b + 1) (L.take k)) (hk : k < L.length) (hv : BNew W (b + 1) v L[k]) (hc : (W.cell? ⟨b, k, none⟩).isSome = true) : NewVals (W.setCell ⟨b, k, none⟩ v) b (b + 1) (L.take (k + 1)) := by
  intro j z hz
  have hj : j < (L.take (k + 1)).length := (List.getElem?_eq_some_iff.1 hz).1
  have hj2 : j < k + 1 := by simp at hj; omega
  rw [List.getElem?_take_of_lt hj2] at hz
  by_cases e : j = k
  · subst e
    rw [List.getElem?_eq_getElem hk] at hz
    obtain rfl := Option.some.inj hz
    exact ⟨v, World.cell?_setCell_same' W _ _ hc, hv.setCell (by simp) _⟩
  · obtain ⟨u, h1, h2⟩ := h j z (by rw [List.getElem?_take_of_lt (by omega)]; exact hz)
    exact ⟨u, by rw [World.cell?_setCell_other W _ _ _ (by simp; first | done | omega)]; exact h1, h2.setCell (by simp) _⟩

theorem there_below {W W' : World} {b o n : Nat} (h : W.there b o n) (hb : Below W.heap.size W W') (hbl : b < W.heap.size) : W'.there b o n := by
  intro j hj
  rw [hb.cell (p := ⟨b, o + j, none⟩) hbl, hb.frozen (p := ⟨b, o + j, none⟩) hbl]
  exact h j hj

set_option maxHeartbeats 800000 in
set_option maxRecDepth 10000 in
theorem cloneList_some (L : List (Option (List UInt8))) (a : Addr) (c : Nat) (w : World) (hA : L = [] ∨ ∃ b o, a = ⟨b, o, none⟩ ∧ ValsAt w b o L) (hl : L.length ≤ 1048576) (hz : ∀ (j : Nat) (x : Option (List UInt8)), L[j]? = some x → bsz x ≤ 1048576) :
    Calls Try.prog 11 #[.slice (some a) L.length c] w fun e w' => e = .returned (.slice (some ⟨w.heap.size, 0, none⟩) L.length L.length) ∧ NewVals w' w.heap.size (w.heap.size + 1) L ∧ Below w.heap.size w w' ∧ w.heap.size < w'.heap.size := by
  obtain ⟨i, z, hi, hz0, hs, hby⟩ := info33
  have hnil := fun (W : World) => eql_nil_some Try.underlying23 a L.length c W
  go_enter Try.func11, Try.ntmps11
  go_wp2_with (at_make; refine wpList_make_full _ rfl _ _ 23 rfl w.heap.size 33 i z 1 Try.underlying23 hi hz0 hs .i64 .i64 _ _ L.length rfl rfl rfl rfl (by rw [hby]; omega) (by unfold maxLen; omega) (Nat.le_refl _) ?_; intro w1 hown hgr)
  have hB1 : Below w.heap.size w w1 := ⟨hgr.os, hgr.tape, hgr.output, hgr.size, fun k hk => hgr.block k hk (by simp)⟩
  obtain ⟨hT1, hS1⟩ := there_of_own hown
  clear hown hgr hnil hi hz0 hs hby
  go_loopw [4] (fun x wr => ∃ k : Nat, k ≤ L.length ∧ x = .int .i64 k ∧ Below w.heap.size w wr ∧ wr.there w.heap.size 0 (L.length * 1) ∧ NewVals wr w.heap.size (w.heap.size + 1) (L.take k) ∧ w.heap.size < wr.heap.size) (fun x _ => L.length - (intOf x).toNat)
  case atStart => exact ⟨0, Nat.zero_le _, rfl, hB1, hT1, by intro j k hk; simp at hk, hS1⟩
  case round =>
    clear hB1 hT1 hS1
    obtain ⟨k, hk, rfl, hb, ht, hK, hS⟩ := hrel
    by_cases hkl : k < L.length
    · rcases hA with rfl | ⟨b, o, rfl, h⟩
      · simp at hkl
      obtain ⟨v, g0, hv⟩ := (h.below hb) k L[k] (by simp [hkl])
      have hzk := hz k L[k] (by simp [hkl])
      have H30 : Hid (Calls Try.prog 30 #[v] wr fun e w' => ∃ v', e = .returned v' ∧ BNew w' wr.heap.size v' L[k] ∧ Below wr.heap.size wr w') := cloneBytes v L[k] wr hv hzk
      obtain ⟨va, vc, rfl⟩ := hv.form
      have HT : Hid (wr.there w.heap.size 0 (L.length * 1)) := ht
      have HK : Hid (NewVals wr w.heap.size (w.heap.size + 1) (L.take k)) := hK
      clear hv h hK ht hz
      generalize hx : L[k] = x at *
      go_wp2_with (go_at_call 30; refine Calls.mono H30.out ?_; rintro _ w2 ⟨v2, rfl, hn2, hb2⟩
                   have hS2 := hb2.size
                   have HT2 : Hid (w2.there w.heap.size 0 (L.length * 1)) := there_below HT.out hb2 hS
                   obtain ⟨t1, t2⟩ := HT2.out k (by omega)
                   simp only [Nat.zero_add] at t1 t2
                   obtain ⟨u, hu⟩ := Option.isSome_iff_exists.1 t1
                   obtain ⟨na, nn, nc, rfl⟩ : ∃ a n c, v2 = .slice a n c := by obtain ⟨q, _⟩ := hn2; cases q <;> exact ⟨_, _, _, rfl⟩
                   clear t1)
      have hbw : Below w.heap.size w w2 := hb.trans (hb2.mono (by omega))
      have hn3 : BNew w2 (w.heap.size + 1) (.slice na nn nc) L[k] := ⟨by rw [hx]; exact hn2.1, fun a n c e => ⟨by have := (hn2.2 a n c e).1; omega, (hn2.2 a n c e).2⟩⟩
      have hK2 := (HK.out.below hb2).snoc hkl hn3 (by rw [hu]; rfl)
      exact ⟨⟨k + 1, by omega, by go_num, hbw.setCell (Nat.le_refl _) _, there_setCell HT2.out _ _, hK2, by simp; omega⟩, by simp [intOf]; omega⟩
    · go_wp2
      go_ret
      rw [List.take_of_length_le (by omega)] at hK
      exact ⟨rfl, hK, hb, hS⟩

set_option maxHeartbeats 400000 in
theorem cloneList_nil (w : World) : Calls Try.prog 11 #[.slice none 0 0] w fun e w' => e = .returned (.slice none 0 0) ∧ w = w' := by
  have hnil := fun (W : World) => eql_nil_none Try.underlying23 W
  go_enter Try.func11, Try.ntmps11
  go_wp2
  go_ret
  exact ⟨rfl, rfl⟩

/-- The cloned list, nil or not. -/
def NArg (w : World) (ao : Option Addr) (L : List (Option (List UInt8))) : Prop := L = [] ∨ ∃ b lo, ao = some ⟨b, 0, none⟩ ∧ NewVals w b lo L

theorem cloneList (L : List (Option (List UInt8))) (ao : Option Addr) (c : Nat) (w : World) (h : VArg w ao L) (hc : ao = none → c = 0) (hl : L.length ≤ 1048576) (hz : ∀ (j : Nat) (x : Option (List UInt8)), L[j]? = some x → bsz x ≤ 1048576) :
    Calls Try.prog 11 #[.slice ao L.length c] w fun e w' => ∃ ao' c', e = .returned (.slice ao' L.length c') ∧ NArg w' ao' L ∧ NewAt w w' ao' ∧ Below w.heap.size w w' := by
  cases ao with
  | none =>
    obtain rfl := hc rfl
    have hL : L = [] := by rcases h with rfl | ⟨b, o, h, _⟩; rfl; cases h
    subst hL
    refine (cloneList_nil w).mono ?_
    rintro e w' ⟨rfl, rfl⟩
    exact ⟨none, 0, rfl, .inl rfl, (fun a h => by cases h), Below.refl _ _⟩
  | some a =>
    refine (cloneList_some L a c w (h.imp id fun ⟨b, o, h1, h2⟩ => ⟨b, o, Option.some.inj h1, h2⟩) hl hz).mono ?_
    rintro e w' ⟨rfl, h1, h2, h3⟩
    exact ⟨_, _, rfl, .inr ⟨_, _, rfl, h1⟩, (fun a h => by obtain rfl := Option.some.inj h; exact ⟨Nat.le_refl _, h3⟩), h2⟩
end Go.Proofs.Qxb6605845a.Ec
