import Derived.Test.Qxb6605676aKz30
import Derived.Test.Qxb6605676aKz34
import Derived.Test.Qxb6605676aKz36
import Derived.Test.Qxb6605676aKz16
import Derived.LoopN
namespace Go.Proofs.Qxb6605676a.Kz
set_option linter.unusedVariables false
set_option linter.unusedSimpArgs false
open Go.RowKit Go.Proofs.Qxb6605676a.Mp Go.Proofs.Qxb6605676a.Tm Go.Proofs.Qxb6605676a.En

theorem flatMap_at {α : Type} {f : α → List Value} {n : Nat} (hf : ∀ x, (f x).length = n) : ∀ (L : List α) (j : Nat) (x : α), L[j]? = some x → ∀ c v, (f x)[c]? = some v → (L.flatMap f)[j * n + c]? = some v
  | [], j, x, h, _, _, _ => by simp at h
  | y :: L, 0, x, h, c, v, hv => by
    simp at h
    subst h
    have hc : c < (f y).length := (List.getElem?_eq_some_iff.1 hv).1
    rw [List.flatMap_cons, Nat.zero_mul, Nat.zero_add, List.getElem?_append_left hc]
    exact hv
  | y :: L, j + 1, x, h, c, v, hv => by
    simp at h
    rw [List.flatMap_cons, List.getElem?_append_right (by rw [hf, Nat.succ_mul]; omega), hf, Nat.succ_mul]
    have := flatMap_at hf L j x h c v hv
    rw [show j * n + n + c - n = j * n + c by omega]
    exact this

/-- A row that is owned, as a slice of rows. -/
theorem own_rows {α : Type} {f : α → List Value} {n base : Nat} {e : TypeId} {v : Value} {w : World} (hf : ∀ x, (f x).length = n) (L : List α) (h : w.ownsRow base e n v L.length (L.flatMap f)) :
    ∃ la lc, v = .slice la L.length lc ∧ (L = [] ∨ ∃ g, la = some ⟨g, 0, none⟩ ∧ RowsAt w g n f L) := by
  rcases h.2 with ⟨rfl, h0⟩ | ⟨g, cap, cur, rfl, _, hg, _, _, _, ht⟩
  · have hL : L = [] := List.length_eq_zero_iff.1 h0
    subst hL
    exact ⟨none, 0, rfl, .inl rfl⟩
  · refine ⟨some ⟨g, 0, none⟩, cap, rfl, .inr ⟨g, rfl, ?_⟩⟩
    intro j x hx c u hu
    have h1 := flatMap_at hf L j x hx c u hu
    rw [← ht] at h1
    have hlt : j * n + c < L.length * n := by
      have := (List.getElem?_eq_some_iff.1 h1).1
      simp at this
      omega
    rw [List.getElem?_take_of_lt hlt] at h1
    unfold World.cell?
    rw [hg]
    simpa using h1

set_option maxHeartbeats 400000 in
set_option maxRecDepth 10000 in
theorem zzcopyKeys_emp (ad : Addr) (cap : Nat) (w : World) :
    Calls Try.prog 13 #[.slice (some ad) 0 cap] w fun e w' => e = .returned (.slice (some ⟨w.heap.size, 0, none⟩) 0 0) ∧ Below w.heap.size w w' := by
  obtain ⟨i, z, hi, hz, hs, hby⟩ := info109
  have hnil := fun (W : World) => eql_nil Try.underlying22 (some ad) 0 cap W
  simp only [Option.isNone_some] at hnil
  go_enter Try.func13, Try.ntmps13
  go_wp2_with (at_make; refine wpList_make_full _ rfl _ _ 22 rfl w.heap.size 109 i z 11 Try.underlying22 hi hz hs .i64 .i64 _ _ 0 rfl rfl rfl rfl (by rw [hby]; omega) (by unfold maxLen; omega) (Nat.le_refl _) ?_; intro w1 hown hgr)
  have hB1 : Below w.heap.size w w1 := ⟨hgr.os, hgr.tape, hgr.output, hgr.size, fun k hk => hgr.block k hk (by simp)⟩
  clear hown hgr hnil hi hz hs hby
  refine wp_loop_rounds 1 ?_
  rw [rounds_succ]
  go_wp2
  go_ret
  exact ⟨rfl, hB1⟩

set_option maxHeartbeats 400000 in
set_option maxRecDepth 10000 in
theorem zzcopySeries_emp (ad : Addr) (cap : Nat) (w : World) :
    Calls Try.prog 25 #[.slice (some ad) 0 cap] w fun e w' => e = .returned (.slice (some ⟨w.heap.size, 0, none⟩) 0 0) ∧ Below w.heap.size w w' := by
  obtain ⟨i, z, hi, hz, hs, hby⟩ := info159
  have hnil := fun (W : World) => eql_nil Try.underlying46 (some ad) 0 cap W
  simp only [Option.isNone_some] at hnil
  go_enter Try.func25, Try.ntmps25
  go_wp2_with (at_make; refine wpList_make_full _ rfl _ _ 46 rfl w.heap.size 159 i z 3 Try.underlying46 hi hz hs .i64 .i64 _ _ 0 rfl rfl rfl rfl (by rw [hby]; omega) (by unfold maxLen; omega) (Nat.le_refl _) ?_; intro w1 hown hgr)
  have hB1 : Below w.heap.size w w1 := ⟨hgr.os, hgr.tape, hgr.output, hgr.size, fun k hk => hgr.block k hk (by simp)⟩
  clear hown hgr hnil hi hz hs hby
  refine wp_loop_rounds 1 ?_
  rw [rounds_succ]
  go_wp2
  go_ret
  exact ⟨rfl, hB1⟩

set_option maxHeartbeats 400000 in
set_option maxRecDepth 10000 in
theorem zzcopyRaised_emp (ad : Addr) (cap : Nat) (w : World) :
    Calls Try.prog 26 #[.slice (some ad) 0 cap] w fun e w' => e = .returned (.slice (some ⟨w.heap.size, 0, none⟩) 0 0) ∧ Below w.heap.size w w' := by
  obtain ⟨i, z, hi, hz, hs, hby⟩ := info62
  have hnil := fun (W : World) => eql_nil Try.underlying47 (some ad) 0 cap W
  simp only [Option.isNone_some] at hnil
  go_enter Try.func26, Try.ntmps26
  go_wp2_with (at_make; refine wpList_make_full _ rfl _ _ 47 rfl w.heap.size 62 i z 7 Try.underlying47 hi hz hs .i64 .i64 _ _ 0 rfl rfl rfl rfl (by rw [hby]; omega) (by unfold maxLen; omega) (Nat.le_refl _) ?_; intro w1 hown hgr)
  have hB1 : Below w.heap.size w w1 := ⟨hgr.os, hgr.tape, hgr.output, hgr.size, fun k hk => hgr.block k hk (by simp)⟩
  clear hown hgr hnil hi hz hs hby
  refine wp_loop_rounds 1 ?_
  rw [rounds_succ]
  go_wp2
  go_ret
  exact ⟨rfl, hB1⟩

/-- The copies. -/
theorem zzcopyKeys_arg (K : List ZK) (a : Option Addr) (c : Nat) (w : World) (h : (K = [] ∧ (a = none → c = 0)) ∨ ∃ b o, a = some ⟨b, o, none⟩ ∧ KeysAt w b o K) (hl : K.length ≤ 4096) :
    Calls Try.prog 13 #[.slice a K.length c] w fun e w' => ∃ ka kc, e = .returned (.slice ka K.length kc) ∧ KArg w' ka K ∧ Below w.heap.size w w' := by
  rcases h with ⟨rfl, hn⟩ | ⟨b, o, rfl, hk⟩
  · cases a with
    | some ad => exact (zzcopyKeys_emp ad c w).mono fun e w' h => ⟨_, _, h.1, .inl rfl, h.2⟩
    | none =>
      obtain rfl := hn rfl
      exact (zzcopyKeys_none w).mono fun e w' h => ⟨none, 0, h.1, .inl rfl, by rw [← h.2]; exact Below.refl _ _⟩
  · exact (zzcopyKeys_some K b o c w hk hl).mono fun e w' h => ⟨_, _, h.1, .inr ⟨_, rfl, h.2.2⟩, h.2.1⟩
theorem zzcopySeries_arg (S : List ZS) (a : Option Addr) (c : Nat) (w : World) (h : (S = [] ∧ (a = none → c = 0)) ∨ ∃ b o, a = some ⟨b, o, none⟩ ∧ SeriesAt w b o S) (hl : S.length ≤ 4096) :
    Calls Try.prog 25 #[.slice a S.length c] w fun e w' => ∃ ka kc, e = .returned (.slice ka S.length kc) ∧ (S = [] ∨ ∃ b o, ka = some ⟨b, o, none⟩ ∧ SeriesAt w' b o S) ∧ Below w.heap.size w w' := by
  rcases h with ⟨rfl, hn⟩ | ⟨b, o, rfl, hk⟩
  · cases a with
    | some ad => exact (zzcopySeries_emp ad c w).mono fun e w' h => ⟨_, _, h.1, .inl rfl, h.2⟩
    | none =>
      obtain rfl := hn rfl
      exact (zzcopySeries_none w).mono fun e w' h => ⟨none, 0, h.1, .inl rfl, by rw [← h.2]; exact Below.refl _ _⟩
  · exact (zzcopySeries_some S b o c w hk hl).mono fun e w' h => ⟨_, _, h.1, .inr ⟨_, _, rfl, h.2.2⟩, h.2.1⟩
theorem zzcopyRaised_arg (T' : List ZR) (a : Option Addr) (c : Nat) (w : World) (h : (T' = [] ∧ (a = none → c = 0)) ∨ ∃ b o, a = some ⟨b, o, none⟩ ∧ RaisedAt w b o T') (hl : T'.length ≤ 4096) :
    Calls Try.prog 26 #[.slice a T'.length c] w fun e w' => ∃ ka kc, e = .returned (.slice ka T'.length kc) ∧ (T' = [] ∨ ∃ b o, ka = some ⟨b, o, none⟩ ∧ RaisedAt w' b o T') ∧ Below w.heap.size w w' := by
  rcases h with ⟨rfl, hn⟩ | ⟨b, o, rfl, hk⟩
  · cases a with
    | some ad => exact (zzcopyRaised_emp ad c w).mono fun e w' h => ⟨_, _, h.1, .inl rfl, h.2⟩
    | none =>
      obtain rfl := hn rfl
      exact (zzcopyRaised_none w).mono fun e w' h => ⟨none, 0, h.1, .inl rfl, by rw [← h.2]; exact Below.refl _ _⟩
  · exact (zzcopyRaised_some T' b o c w hk hl).mono fun e w' h => ⟨_, _, h.1, .inr ⟨_, _, rfl, h.2.2⟩, h.2.1⟩
theorem sarg_below {w w' : World} {S : List ZS} {a : Option Addr} (h : S = [] ∨ ∃ b o, a = some ⟨b, o, none⟩ ∧ SeriesAt w b o S) (hb : Below w.heap.size w w') : S = [] ∨ ∃ b o, a = some ⟨b, o, none⟩ ∧ SeriesAt w' b o S :=
  h.imp id fun ⟨b, o, h1, h2⟩ => ⟨b, o, h1, h2.below hb⟩
theorem rarg_below {w w' : World} {S : List ZR} {a : Option Addr} (h : S = [] ∨ ∃ b o, a = some ⟨b, o, none⟩ ∧ RaisedAt w b o S) (hb : Below w.heap.size w w') : S = [] ∨ ∃ b o, a = some ⟨b, o, none⟩ ∧ RaisedAt w' b o S :=
  h.imp id fun ⟨b, o, h1, h2⟩ => ⟨b, o, h1, h2.below hb⟩
theorem karg_of {w : World} {K : List ZK} {a : Option Addr} (h : KArg w a K) : K = [] ∨ ∃ b o, a = some ⟨b, o, none⟩ ∧ KeysAt w b o K :=
  h.imp id fun ⟨b, h1, h2⟩ => ⟨b, 0, h1, h2⟩

/-- The one rule of an engine, in it. -/
theorem rulesIn_one {w : World} {mb rb lb : Nat} {n m : ByteArray} {sv' : List ByteArray} {f : Int} {A C KB : List (Key × Value)} {LS SB : List ((ByteArray × ByteArray) × Value)} (E : Eng w mb rb 1 (ruleCells n m lb sv'.length f) A C KB LS SB) (hL : LevelsAt w lb sv') (hlb : lb < mb) :
    RulesIn w mb rb [⟨n, m, sv'⟩] := by
  intro i r hr
  cases i with
  | succ i => simp at hr
  | zero =>
    simp at hr
    subst hr
    have hrul := E.rul
    refine ⟨lb, f, 0, 0, ?_, ?_, ?_, ?_, ?_, ?_, hL, hlb⟩ <;> simp [World.cell?, hrul, ruleCells]
end Go.Proofs.Qxb6605676a.Kz
