import Derived.Test.Qxb6605676aKz13
import Derived.Test.Qxb6605676aMaps4
import Derived.Deep.RegionHeld3
namespace Go.Proofs.Qxb6605676a.Kz
set_option linter.unusedVariables false
set_option linter.unusedSimpArgs false
open Go.RowKit Go.Proofs.Qxb6605676a.Mp Go.Proofs.Qxb6605676a.Tm Go.Proofs.Qxb6605676a.En
open Go.ChangeMaps (setBlock heap_setBlock_same)

section
variable {P : Program} {ops : Array Oper} {Q : Exit → Act → World → Prop} {md : Region.Mode}
def cntF (l : Array Bool) : Nat := l.toList.count false
theorem cntF_set (l : Array Bool) (i : Nat) (h : l.getD i true = false) : cntF (l.setIfInBounds i true) + 1 = cntF l := by
  have hi : i < l.size := by
    rcases Nat.lt_or_ge i l.size with h' | h'
    · exact h'
    · simp [Array.getD, Nat.not_lt.2 h'] at h
  have hv : l.toList[i]'(by simpa using hi) = false := by simpa [Array.getD, hi] using h
  unfold cntF
  rw [Array.toList_setIfInBounds, List.count_set (by simpa using hi)]
  have hm : 0 < l.toList.count false := List.count_pos_iff.2 (by rw [← hv]; exact List.getElem_mem _)
  rw [hv, if_pos (by decide), if_neg (by decide)]
  omega
/-- Each operation that may come up keeps what one knows: so in whatever order they come up. -/
theorem wpAny_until {I : Array Bool → Act → World → Prop} (step : ∀ l a w, I l a w → (Region.ready md ops l ≠ [] ∧ ∀ i ∈ Region.ready md ops l, wpOp P ops Q i (fun a' w' => I (l.setIfInBounds i true) a' w') a w) ∨ (∃ k, cntF l = k ∧ wpAny P md ops Q k l a w)) :
    ∀ fuel l a w, cntF l = fuel → I l a w → wpAny P md ops Q fuel l a w
  | fuel, l, a, w, hc, hI => by
    rcases step l a w hI with ⟨h1, h2⟩ | ⟨k, hk, h⟩
    · cases fuel with
      | zero =>
        obtain ⟨i, hi⟩ := List.exists_mem_of_ne_nil _ h1
        have := cntF_set l i (mem_ready.1 hi).1
        omega
      | succ f => exact ⟨fun h => absurd h h1, fun i hi => wpOp_mono (fun a' w' h' => wpAny_until step f _ a' w' (by have := cntF_set l i (mem_ready.1 hi).1; omega) h') (h2 i hi)⟩
    · rw [hc] at hk
      subst hk
      exact h
end

def lev21 (s : ByteArray) : Value := .agg #[.string s, .string ⟨#[]⟩, .float .f64 0, .float .f64 0]
def rul21 (n m : ByteArray) (v : Value) : Value := .agg #[.string n, .string m, v, .int .i64 0, .int .i64 0, .int .i64 0]
/-- What stands, stands still. -/
structure Kp (W W' : World) : Prop where
  cs : ∀ (b : Nat) (cs : Array Value) (T : TypeId), W.heap[b]? = some (Obj.cells cs T) → W'.heap[b]? = some (Obj.cells cs T)
  ms : ∀ b (L : List (ByteArray × Value)), MapIs W b sv L → ∃ L' : List (ByteArray × Value), MapIs W' b sv L'
theorem Kp.alloc (W : World) (o : Obj) : Kp W (W.alloc o) :=
  ⟨fun b cs T h => by rw [heap_alloc_old W o (Array.getElem?_eq_some_iff.1 h).1]; exact h, fun b L h => ⟨L, h.of_block (heap_alloc_old W o h.lt)⟩⟩
theorem Kp.set {W : World} {b : Nat} {L L' : List (ByteArray × Value)} {o : Obj} (h : MapIs W b sv L) (h' : MapIs (setBlock W b o) b sv L') : Kp W (setBlock W b o) := by
  have ho : ∀ c, c ≠ b → (setBlock W b o).heap[c]? = W.heap[c]? := fun c hc => by
    show (W.heap.setIfInBounds b o)[c]? = _
    rw [Array.getElem?_setIfInBounds, if_neg (Ne.symm hc)]
  refine ⟨fun c cs T hc => ?_, fun c L2 hc => ?_⟩
  · have hne : c ≠ b := by
      rintro rfl
      obtain ⟨es, clock, h1, _⟩ := h
      rw [h1] at hc
      cases hc
    rw [ho c hne]; exact hc
  · by_cases hne : c = b
    · subst hne; exact ⟨L', h'⟩
    · exact ⟨L2, hc.of_block (ho c hne)⟩

/-- What one knows of the slots and blocks, by what has come up. -/
structure F21 (w : World) (n0 m0 s0 n1 m1 s1 : ByteArray) (b4 b5 b10 b11 b12 b13 b15 b16 b18 b19 b20 : Bool) (v17 v18 v23 v24 v25 v26 v28 v30 v31 : Value) (W : World) : Prop where
  low : Below w.heap.size w W
  h4 : b4 = true → ∃ b, w.heap.size ≤ b ∧ v17 = .slice (some ⟨b, 0, none⟩) 1 1 ∧ W.heap[b]? = some (.cells #[.string s0, .string ⟨#[]⟩, .float .f64 0, .float .f64 0] 131)
  h5 : b5 = true → b4 = true ∧ v18 = rul21 n0 m0 v17
  h10 : b10 = true → ∃ b, w.heap.size ≤ b ∧ v23 = .slice (some ⟨b, 0, none⟩) 1 1 ∧ W.heap[b]? = some (.cells #[.string s1, .string ⟨#[]⟩, .float .f64 0, .float .f64 0] 131)
  h11 : b11 = true → b10 = true ∧ v24 = rul21 n1 m1 v23
  h12 : b12 = true → b5 = true ∧ b11 = true ∧ ∃ rb, w.heap.size ≤ rb ∧ v25 = .slice (some ⟨rb, 0, none⟩) 2 2 ∧ W.heap[rb]? = some (.cells #[.string n0, .string m0, v17, .int .i64 0, .int .i64 0, .int .i64 0, .string n1, .string m1, v23, .int .i64 0, .int .i64 0, .int .i64 0] 124)
  h13 : b13 = true → ∃ mb, w.heap.size ≤ mb ∧ v26 = .map (some mb) ∧ ∃ L : List (ByteArray × Value), MapIs W mb sv L
  h16 : b16 = true → b13 = true ∧ b15 = true
  h19 : b19 = true → b13 = true ∧ b18 = true
  h20 : b20 = true → b13 = true ∧ b15 = true ∧ b16 = true ∧ b18 = true ∧ b19 = true ∧ v31 = v26
theorem F21.keep {w W W' : World} {n0 m0 s0 n1 m1 s1 : ByteArray} {b4 b5 b10 b11 b12 b13 b15 b16 b18 b19 b20 : Bool} {v17 v18 v23 v24 v25 v26 v28 v30 v31 : Value} (h : F21 w n0 m0 s0 n1 m1 s1 b4 b5 b10 b11 b12 b13 b15 b16 b18 b19 b20 v17 v18 v23 v24 v25 v26 v28 v30 v31 W) (k : Kp W W') (hb : Below w.heap.size w W') : F21 w n0 m0 s0 n1 m1 s1 b4 b5 b10 b11 b12 b13 b15 b16 b18 b19 b20 v17 v18 v23 v24 v25 v26 v28 v30 v31 W' :=
  ⟨hb, fun x => let ⟨b, h1, h2, h3⟩ := h.h4 x; ⟨b, h1, h2, k.cs _ _ _ h3⟩, h.h5, fun x => let ⟨b, h1, h2, h3⟩ := h.h10 x; ⟨b, h1, h2, k.cs _ _ _ h3⟩, h.h11, fun x => let ⟨x1, x2, b, h1, h2, h3⟩ := h.h12 x; ⟨x1, x2, b, h1, h2, k.cs _ _ _ h3⟩, fun x => let ⟨b, h1, h2, L, h3⟩ := h.h13 x; ⟨b, h1, h2, k.ms _ _ h3⟩, h.h16, h.h19, h.h20⟩
def I21 (w : World) (n0 m0 s0 n1 m1 s1 : ByteArray) (l : Array Bool) (a : Act) (W : World) : Prop :=
  ∃ (b4 b5 b10 b11 b12 b13 b15 b16 b18 b19 b20 : Bool) (v17 v18 v23 v24 v25 v26 v28 v30 v31 : Value), l = #[true, true, true, true, b4, b5, true, true, true, true, b10, b11, b12, b13, true, b15, b16, true, b18, b19, b20, false, false] ∧ a = ⟨#[.string n0, .string m0, .string s0, .string n1, .string m1, .string s1, undef, undef, undef, undef, undef, undef, .pointer none, .string n0, .string m0, .string s0, lev21 s0, v17, v18, .string n1, .string m1, .string s1, lev21 s1, v23, v24, v25, v26, .string m0, v28, .string m1, v30, v31, undef], []⟩ ∧ F21 w n0 m0 s0 n1 m1 s1 b4 b5 b10 b11 b12 b13 b15 b16 b18 b19 b20 v17 v18 v23 v24 v25 v26 v28 v30 v31 W

noncomputable def ops21 : Array Oper := match Try.f21.body with
  | some (.seq _ (.seq (.region _ o _) _)) => o
  | _ => #[]

theorem below_set {B b : Nat} (W : World) (h : B ≤ b) (o : Obj) : Below B W (setBlock W b o) := by
  refine ⟨rfl, rfl, rfl, by show W.heap.size ≤ (W.heap.setIfInBounds b o).size; simp, fun k hk => ?_⟩
  show (W.heap.setIfInBounds b o)[k]? = _
  rw [Array.getElem?_setIfInBounds, if_neg (by omega)]

set_option maxHeartbeats 1600000 in
set_option maxRecDepth 100000 in
theorem s21_4 (Q : Exit → Act → World → Prop) (w W : World) (n0 m0 s0 n1 m1 s1 : ByteArray) (b5 b10 b11 b12 b13 b15 b16 b18 b19 b20 : Bool) (v17 v18 v23 v24 v25 v26 v28 v30 v31 : Value) (hF : Hid (F21 w n0 m0 s0 n1 m1 s1 false b5 b10 b11 b12 b13 b15 b16 b18 b19 b20 v17 v18 v23 v24 v25 v26 v28 v30 v31 W)) :
    wpOp Try.prog ops21 Q 4 (fun a' w' => I21 w n0 m0 s0 n1 m1 s1 (#[true, true, true, true, false, b5, true, true, true, true, b10, b11, b12, b13, true, b15, b16, true, b18, b19, b20, false, false].setIfInBounds 4 true) a' w') ⟨#[.string n0, .string m0, .string s0, .string n1, .string m1, .string s1, undef, undef, undef, undef, undef, undef, .pointer none, .string n0, .string m0, .string s0, lev21 s0, v17, v18, .string n1, .string m1, .string s1, lev21 s1, v23, v24, v25, v26, .string m0, v28, .string m1, v30, v31, undef], []⟩ W := by
  have hbA : ∀ o, Below w.heap.size w (W.alloc o) := fun o => hF.out.low.alloc hF.out.low.size o
  have HBA : Hid (∀ o, Below w.heap.size w (W.alloc o)) := hbA
  clear hbA
  delta ops21 Try.f21
  dsimp only
  refine wpOp_step rfl (fun K hK => ?_)
  have hK : Hid _ := hK
  rw [if_pos (by first | rfl | simp [Region.wanted])]
  go_simp
  refine hK.out _ _ ⟨true, b5, b10, b11, b12, b13, b15, b16, b18, b19, b20, _, _, _, _, _, _, _, _, _, rfl, rfl, ?_⟩
  have hF2 := hF.out.keep (Kp.alloc W (.cells #[.string s0, .string ⟨#[]⟩, .float .f64 0, .float .f64 0] 131)) (HBA.out _)
  exact ⟨hF2.low, fun _ => ⟨W.heap.size, hF.out.low.size, rfl, heap_alloc_new W _⟩, fun x => absurd (hF2.h5 x).1 (by simp), hF2.h10, hF2.h11, fun x => absurd (hF2.h5 (hF2.h12 x).1).1 (by simp), hF2.h13, hF2.h16, hF2.h19, hF2.h20⟩

set_option maxHeartbeats 1600000 in
set_option maxRecDepth 100000 in
theorem s21_5 (Q : Exit → Act → World → Prop) (w W : World) (n0 m0 s0 n1 m1 s1 : ByteArray) (b10 b11 b12 b13 b15 b16 b18 b19 b20 : Bool) (v17 v18 v23 v24 v25 v26 v28 v30 v31 : Value) (hF : Hid (F21 w n0 m0 s0 n1 m1 s1 true false b10 b11 b12 b13 b15 b16 b18 b19 b20 v17 v18 v23 v24 v25 v26 v28 v30 v31 W)) :
    wpOp Try.prog ops21 Q 5 (fun a' w' => I21 w n0 m0 s0 n1 m1 s1 (#[true, true, true, true, true, false, true, true, true, true, b10, b11, b12, b13, true, b15, b16, true, b18, b19, b20, false, false].setIfInBounds 5 true) a' w') ⟨#[.string n0, .string m0, .string s0, .string n1, .string m1, .string s1, undef, undef, undef, undef, undef, undef, .pointer none, .string n0, .string m0, .string s0, lev21 s0, v17, v18, .string n1, .string m1, .string s1, lev21 s1, v23, v24, v25, v26, .string m0, v28, .string m1, v30, v31, undef], []⟩ W := by
  obtain ⟨bx, _, e17, _⟩ := hF.out.h4 (by first | rfl | exact (hF.out.h5 rfl).1)
  subst e17
  delta ops21 Try.f21
  dsimp only
  refine wpOp_step rfl (fun K hK => ?_)
  have hK : Hid _ := hK
  rw [if_pos (by first | rfl | simp [Region.wanted])]
  go_simp
  refine hK.out _ _ ⟨true, true, b10, b11, b12, b13, b15, b16, b18, b19, b20, _, _, _, _, _, _, _, _, _, rfl, rfl, ?_⟩
  have hF2 := hF.out
  exact ⟨hF2.low, hF2.h4, fun _ => ⟨rfl, rfl⟩, hF2.h10, hF2.h11, fun x => absurd (hF2.h12 x).1 (by simp), hF2.h13, hF2.h16, hF2.h19, hF2.h20⟩

set_option maxHeartbeats 1600000 in
set_option maxRecDepth 100000 in
theorem s21_10 (Q : Exit → Act → World → Prop) (w W : World) (n0 m0 s0 n1 m1 s1 : ByteArray) (b4 b5 b11 b12 b13 b15 b16 b18 b19 b20 : Bool) (v17 v18 v23 v24 v25 v26 v28 v30 v31 : Value) (hF : Hid (F21 w n0 m0 s0 n1 m1 s1 b4 b5 false b11 b12 b13 b15 b16 b18 b19 b20 v17 v18 v23 v24 v25 v26 v28 v30 v31 W)) :
    wpOp Try.prog ops21 Q 10 (fun a' w' => I21 w n0 m0 s0 n1 m1 s1 (#[true, true, true, true, b4, b5, true, true, true, true, false, b11, b12, b13, true, b15, b16, true, b18, b19, b20, false, false].setIfInBounds 10 true) a' w') ⟨#[.string n0, .string m0, .string s0, .string n1, .string m1, .string s1, undef, undef, undef, undef, undef, undef, .pointer none, .string n0, .string m0, .string s0, lev21 s0, v17, v18, .string n1, .string m1, .string s1, lev21 s1, v23, v24, v25, v26, .string m0, v28, .string m1, v30, v31, undef], []⟩ W := by
  have hbA : ∀ o, Below w.heap.size w (W.alloc o) := fun o => hF.out.low.alloc hF.out.low.size o
  have HBA : Hid (∀ o, Below w.heap.size w (W.alloc o)) := hbA
  clear hbA
  delta ops21 Try.f21
  dsimp only
  refine wpOp_step rfl (fun K hK => ?_)
  have hK : Hid _ := hK
  rw [if_pos (by first | rfl | simp [Region.wanted])]
  go_simp
  refine hK.out _ _ ⟨b4, b5, true, b11, b12, b13, b15, b16, b18, b19, b20, _, _, _, _, _, _, _, _, _, rfl, rfl, ?_⟩
  have hF2 := hF.out.keep (Kp.alloc W (.cells #[.string s1, .string ⟨#[]⟩, .float .f64 0, .float .f64 0] 131)) (HBA.out _)
  exact ⟨hF2.low, hF2.h4, hF2.h5, fun _ => ⟨W.heap.size, hF.out.low.size, rfl, heap_alloc_new W _⟩, fun x => absurd (hF2.h11 x).1 (by simp), fun x => absurd (hF2.h11 (hF2.h12 x).2.1).1 (by simp), hF2.h13, hF2.h16, hF2.h19, hF2.h20⟩

set_option maxHeartbeats 1600000 in
set_option maxRecDepth 100000 in
theorem s21_11 (Q : Exit → Act → World → Prop) (w W : World) (n0 m0 s0 n1 m1 s1 : ByteArray) (b4 b5 b12 b13 b15 b16 b18 b19 b20 : Bool) (v17 v18 v23 v24 v25 v26 v28 v30 v31 : Value) (hF : Hid (F21 w n0 m0 s0 n1 m1 s1 b4 b5 true false b12 b13 b15 b16 b18 b19 b20 v17 v18 v23 v24 v25 v26 v28 v30 v31 W)) :
    wpOp Try.prog ops21 Q 11 (fun a' w' => I21 w n0 m0 s0 n1 m1 s1 (#[true, true, true, true, b4, b5, true, true, true, true, true, false, b12, b13, true, b15, b16, true, b18, b19, b20, false, false].setIfInBounds 11 true) a' w') ⟨#[.string n0, .string m0, .string s0, .string n1, .string m1, .string s1, undef, undef, undef, undef, undef, undef, .pointer none, .string n0, .string m0, .string s0, lev21 s0, v17, v18, .string n1, .string m1, .string s1, lev21 s1, v23, v24, v25, v26, .string m0, v28, .string m1, v30, v31, undef], []⟩ W := by
  obtain ⟨by_, _, e23, _⟩ := hF.out.h10 (by first | rfl | exact (hF.out.h11 rfl).1)
  subst e23
  delta ops21 Try.f21
  dsimp only
  refine wpOp_step rfl (fun K hK => ?_)
  have hK : Hid _ := hK
  rw [if_pos (by first | rfl | simp [Region.wanted])]
  go_simp
  refine hK.out _ _ ⟨b4, b5, true, true, b12, b13, b15, b16, b18, b19, b20, _, _, _, _, _, _, _, _, _, rfl, rfl, ?_⟩
  have hF2 := hF.out
  exact ⟨hF2.low, hF2.h4, hF2.h5, hF2.h10, fun _ => ⟨rfl, rfl⟩, fun x => absurd (hF2.h12 x).2.1 (by simp), hF2.h13, hF2.h16, hF2.h19, hF2.h20⟩

set_option maxHeartbeats 1600000 in
set_option maxRecDepth 100000 in
theorem s21_12 (Q : Exit → Act → World → Prop) (w W : World) (n0 m0 s0 n1 m1 s1 : ByteArray) (b4 b10 b13 b15 b16 b18 b19 b20 : Bool) (v17 v18 v23 v24 v25 v26 v28 v30 v31 : Value) (hF : Hid (F21 w n0 m0 s0 n1 m1 s1 b4 true b10 true false b13 b15 b16 b18 b19 b20 v17 v18 v23 v24 v25 v26 v28 v30 v31 W)) :
    wpOp Try.prog ops21 Q 12 (fun a' w' => I21 w n0 m0 s0 n1 m1 s1 (#[true, true, true, true, b4, true, true, true, true, true, b10, true, false, b13, true, b15, b16, true, b18, b19, b20, false, false].setIfInBounds 12 true) a' w') ⟨#[.string n0, .string m0, .string s0, .string n1, .string m1, .string s1, undef, undef, undef, undef, undef, undef, .pointer none, .string n0, .string m0, .string s0, lev21 s0, v17, v18, .string n1, .string m1, .string s1, lev21 s1, v23, v24, v25, v26, .string m0, v28, .string m1, v30, v31, undef], []⟩ W := by
  have hbA : ∀ o, Below w.heap.size w (W.alloc o) := fun o => hF.out.low.alloc hF.out.low.size o
  obtain ⟨bx, _, e17, _⟩ := hF.out.h4 (by first | rfl | exact (hF.out.h5 rfl).1)
  subst e17
  obtain ⟨by_, _, e23, _⟩ := hF.out.h10 (by first | rfl | exact (hF.out.h11 rfl).1)
  subst e23
  obtain ⟨_, e18⟩ := hF.out.h5 rfl
  obtain ⟨_, e24⟩ := hF.out.h11 rfl
  unfold rul21 at e18 e24
  subst e18 e24
  have HBA : Hid (∀ o, Below w.heap.size w (W.alloc o)) := hbA
  clear hbA
  delta ops21 Try.f21
  dsimp only
  refine wpOp_step rfl (fun K hK => ?_)
  have hK : Hid _ := hK
  rw [if_pos (by first | rfl | simp [Region.wanted])]
  go_simp
  refine hK.out _ _ ⟨b4, true, b10, true, true, b13, b15, b16, b18, b19, b20, _, _, _, _, _, _, _, _, _, rfl, rfl, ?_⟩
  have hF2 := hF.out.keep (Kp.alloc W (.cells #[.string n0, .string m0, .slice (some ⟨bx, 0, none⟩) 1 1, .int .i64 0, .int .i64 0, .int .i64 0, .string n1, .string m1, .slice (some ⟨by_, 0, none⟩) 1 1, .int .i64 0, .int .i64 0, .int .i64 0] 124)) (HBA.out _)
  exact ⟨hF2.low, hF2.h4, hF2.h5, hF2.h10, hF2.h11, fun _ => ⟨rfl, rfl, W.heap.size, hF.out.low.size, rfl, heap_alloc_new W _⟩, hF2.h13, hF2.h16, hF2.h19, hF2.h20⟩

set_option maxHeartbeats 1600000 in
set_option maxRecDepth 100000 in
theorem s21_13 (Q : Exit → Act → World → Prop) (w W : World) (n0 m0 s0 n1 m1 s1 : ByteArray) (b4 b5 b10 b11 b12 b15 b16 b18 b19 b20 : Bool) (v17 v18 v23 v24 v25 v26 v28 v30 v31 : Value) (hF : Hid (F21 w n0 m0 s0 n1 m1 s1 b4 b5 b10 b11 b12 false b15 b16 b18 b19 b20 v17 v18 v23 v24 v25 v26 v28 v30 v31 W)) :
    wpOp Try.prog ops21 Q 13 (fun a' w' => I21 w n0 m0 s0 n1 m1 s1 (#[true, true, true, true, b4, b5, true, true, true, true, b10, b11, b12, false, true, b15, b16, true, b18, b19, b20, false, false].setIfInBounds 13 true) a' w') ⟨#[.string n0, .string m0, .string s0, .string n1, .string m1, .string s1, undef, undef, undef, undef, undef, undef, .pointer none, .string n0, .string m0, .string s0, lev21 s0, v17, v18, .string n1, .string m1, .string s1, lev21 s1, v23, v24, v25, v26, .string m0, v28, .string m1, v30, v31, undef], []⟩ W := by
  have hbA : ∀ o, Below w.heap.size w (W.alloc o) := fun o => hF.out.low.alloc hF.out.low.size o
  have hmm := @run_makeMap Try.prog
  have HBA : Hid (∀ o, Below w.heap.size w (W.alloc o)) := hbA
  clear hbA
  delta ops21 Try.f21
  dsimp only
  refine wpOp_step rfl (fun K hK => ?_)
  have hK : Hid _ := hK
  rw [if_pos (by first | rfl | simp [Region.wanted])]
  go_simp
  refine hK.out _ _ ⟨b4, b5, b10, b11, b12, true, b15, b16, b18, b19, b20, _, _, _, _, _, _, _, _, _, rfl, rfl, ?_⟩
  have hF2 := hF.out.keep (Kp.alloc W (.map #[] 0)) (HBA.out _)
  exact ⟨hF2.low, hF2.h4, hF2.h5, hF2.h10, hF2.h11, hF2.h12, fun _ => ⟨W.heap.size, hF.out.low.size, rfl, [], MapIs.made W sv⟩, fun x => absurd (hF2.h16 x).1 (by simp), fun x => absurd (hF2.h19 x).1 (by simp), fun x => absurd (hF2.h20 x).1 (by simp)⟩

set_option maxHeartbeats 1600000 in
set_option maxRecDepth 100000 in
theorem s21_15 (Q : Exit → Act → World → Prop) (w W : World) (n0 m0 s0 n1 m1 s1 : ByteArray) (b4 b5 b10 b11 b12 b13 b16 b18 b19 b20 : Bool) (v17 v18 v23 v24 v25 v26 v28 v30 v31 : Value) (hF : Hid (F21 w n0 m0 s0 n1 m1 s1 b4 b5 b10 b11 b12 b13 false b16 b18 b19 b20 v17 v18 v23 v24 v25 v26 v28 v30 v31 W)) :
    wpOp Try.prog ops21 Q 15 (fun a' w' => I21 w n0 m0 s0 n1 m1 s1 (#[true, true, true, true, b4, b5, true, true, true, true, b10, b11, b12, b13, true, false, b16, true, b18, b19, b20, false, false].setIfInBounds 15 true) a' w') ⟨#[.string n0, .string m0, .string s0, .string n1, .string m1, .string s1, undef, undef, undef, undef, undef, undef, .pointer none, .string n0, .string m0, .string s0, lev21 s0, v17, v18, .string n1, .string m1, .string s1, lev21 s1, v23, v24, v25, v26, .string m0, v28, .string m1, v30, v31, undef], []⟩ W := by
  have hbA : ∀ o, Below w.heap.size w (W.alloc o) := fun o => hF.out.low.alloc hF.out.low.size o
  have HBA : Hid (∀ o, Below w.heap.size w (W.alloc o)) := hbA
  clear hbA
  delta ops21 Try.f21
  dsimp only
  refine wpOp_step rfl (fun K hK => ?_)
  have hK : Hid _ := hK
  rw [if_pos (by first | rfl | simp [Region.wanted])]
  go_simp
  refine hK.out _ _ ⟨b4, b5, b10, b11, b12, b13, true, b16, b18, b19, b20, _, _, _, _, _, _, _, _, _, rfl, rfl, ?_⟩
  have hF2 := hF.out.keep (Kp.alloc W (.cells #[.int .i64 0] 3)) (HBA.out _)
  exact ⟨hF2.low, hF2.h4, hF2.h5, hF2.h10, hF2.h11, hF2.h12, hF2.h13, fun x => absurd (hF2.h16 x).2 (by simp), hF2.h19, fun x => absurd (hF2.h20 x).2.1 (by simp)⟩

set_option maxHeartbeats 1600000 in
set_option maxRecDepth 100000 in
theorem s21_16 (Q : Exit → Act → World → Prop) (w W : World) (n0 m0 s0 n1 m1 s1 : ByteArray) (b4 b5 b10 b11 b12 b18 b19 b20 : Bool) (v17 v18 v23 v24 v25 v26 v28 v30 v31 : Value) (hF : Hid (F21 w n0 m0 s0 n1 m1 s1 b4 b5 b10 b11 b12 true true false b18 b19 b20 v17 v18 v23 v24 v25 v26 v28 v30 v31 W)) :
    wpOp Try.prog ops21 Q 16 (fun a' w' => I21 w n0 m0 s0 n1 m1 s1 (#[true, true, true, true, b4, b5, true, true, true, true, b10, b11, b12, true, true, true, false, true, b18, b19, b20, false, false].setIfInBounds 16 true) a' w') ⟨#[.string n0, .string m0, .string s0, .string n1, .string m1, .string s1, undef, undef, undef, undef, undef, undef, .pointer none, .string n0, .string m0, .string s0, lev21 s0, v17, v18, .string n1, .string m1, .string s1, lev21 s1, v23, v24, v25, v26, .string m0, v28, .string m1, v30, v31, undef], []⟩ W := by
  obtain ⟨mb, hmb, e26, L, hL⟩ := hF.out.h13 rfl
  subst e26
  obtain ⟨o, hrun, hL'⟩ := hL.store keyTy9 Try.underlying113 m0 v28
  have hkp := Kp.set hL hL'
  unfold sv at hrun
  have hbs : Below w.heap.size w (setBlock W mb o) := hF.out.low.trans (below_set W hmb o)
  have HKP : Hid (Kp W (setBlock W mb o)) := hkp
  have HBS : Hid (Below w.heap.size w (setBlock W mb o)) := hbs
  clear hkp hbs hL hL' hmb
  delta ops21 Try.f21
  dsimp only
  refine wpOp_step rfl (fun K hK => ?_)
  have hK : Hid _ := hK
  rw [if_pos (by first | rfl | simp [Region.wanted])]
  go_simp
  refine hK.out _ _ ⟨b4, b5, b10, b11, b12, true, true, true, b18, b19, b20, _, _, _, _, _, _, _, _, _, rfl, rfl, ?_⟩
  have hF2 := hF.out.keep HKP.out HBS.out
  exact ⟨hF2.low, hF2.h4, hF2.h5, hF2.h10, hF2.h11, hF2.h12, hF2.h13, fun _ => ⟨rfl, rfl⟩, hF2.h19, fun x => absurd (hF2.h20 x).2.2.1 (by simp)⟩

set_option maxHeartbeats 1600000 in
set_option maxRecDepth 100000 in
theorem s21_18 (Q : Exit → Act → World → Prop) (w W : World) (n0 m0 s0 n1 m1 s1 : ByteArray) (b4 b5 b10 b11 b12 b13 b15 b16 b19 b20 : Bool) (v17 v18 v23 v24 v25 v26 v28 v30 v31 : Value) (hF : Hid (F21 w n0 m0 s0 n1 m1 s1 b4 b5 b10 b11 b12 b13 b15 b16 false b19 b20 v17 v18 v23 v24 v25 v26 v28 v30 v31 W)) :
    wpOp Try.prog ops21 Q 18 (fun a' w' => I21 w n0 m0 s0 n1 m1 s1 (#[true, true, true, true, b4, b5, true, true, true, true, b10, b11, b12, b13, true, b15, b16, true, false, b19, b20, false, false].setIfInBounds 18 true) a' w') ⟨#[.string n0, .string m0, .string s0, .string n1, .string m1, .string s1, undef, undef, undef, undef, undef, undef, .pointer none, .string n0, .string m0, .string s0, lev21 s0, v17, v18, .string n1, .string m1, .string s1, lev21 s1, v23, v24, v25, v26, .string m0, v28, .string m1, v30, v31, undef], []⟩ W := by
  have hbA : ∀ o, Below w.heap.size w (W.alloc o) := fun o => hF.out.low.alloc hF.out.low.size o
  have HBA : Hid (∀ o, Below w.heap.size w (W.alloc o)) := hbA
  clear hbA
  delta ops21 Try.f21
  dsimp only
  refine wpOp_step rfl (fun K hK => ?_)
  have hK : Hid _ := hK
  rw [if_pos (by first | rfl | simp [Region.wanted])]
  go_simp
  refine hK.out _ _ ⟨b4, b5, b10, b11, b12, b13, b15, b16, true, b19, b20, _, _, _, _, _, _, _, _, _, rfl, rfl, ?_⟩
  have hF2 := hF.out.keep (Kp.alloc W (.cells #[.int .i64 1] 3)) (HBA.out _)
  exact ⟨hF2.low, hF2.h4, hF2.h5, hF2.h10, hF2.h11, hF2.h12, hF2.h13, hF2.h16, fun x => absurd (hF2.h19 x).2 (by simp), fun x => absurd (hF2.h20 x).2.2.2.1 (by simp)⟩

set_option maxHeartbeats 1600000 in
set_option maxRecDepth 100000 in
theorem s21_19 (Q : Exit → Act → World → Prop) (w W : World) (n0 m0 s0 n1 m1 s1 : ByteArray) (b4 b5 b10 b11 b12 b15 b16 b20 : Bool) (v17 v18 v23 v24 v25 v26 v28 v30 v31 : Value) (hF : Hid (F21 w n0 m0 s0 n1 m1 s1 b4 b5 b10 b11 b12 true b15 b16 true false b20 v17 v18 v23 v24 v25 v26 v28 v30 v31 W)) :
    wpOp Try.prog ops21 Q 19 (fun a' w' => I21 w n0 m0 s0 n1 m1 s1 (#[true, true, true, true, b4, b5, true, true, true, true, b10, b11, b12, true, true, b15, b16, true, true, false, b20, false, false].setIfInBounds 19 true) a' w') ⟨#[.string n0, .string m0, .string s0, .string n1, .string m1, .string s1, undef, undef, undef, undef, undef, undef, .pointer none, .string n0, .string m0, .string s0, lev21 s0, v17, v18, .string n1, .string m1, .string s1, lev21 s1, v23, v24, v25, v26, .string m0, v28, .string m1, v30, v31, undef], []⟩ W := by
  obtain ⟨mb, hmb, e26, L, hL⟩ := hF.out.h13 rfl
  subst e26
  obtain ⟨o, hrun, hL'⟩ := hL.store keyTy9 Try.underlying113 m1 v30
  have hkp := Kp.set hL hL'
  unfold sv at hrun
  have hbs : Below w.heap.size w (setBlock W mb o) := hF.out.low.trans (below_set W hmb o)
  have HKP : Hid (Kp W (setBlock W mb o)) := hkp
  have HBS : Hid (Below w.heap.size w (setBlock W mb o)) := hbs
  clear hkp hbs hL hL' hmb
  delta ops21 Try.f21
  dsimp only
  refine wpOp_step rfl (fun K hK => ?_)
  have hK : Hid _ := hK
  rw [if_pos (by first | rfl | simp [Region.wanted])]
  go_simp
  refine hK.out _ _ ⟨b4, b5, b10, b11, b12, true, b15, b16, true, true, b20, _, _, _, _, _, _, _, _, _, rfl, rfl, ?_⟩
  have hF2 := hF.out.keep HKP.out HBS.out
  exact ⟨hF2.low, hF2.h4, hF2.h5, hF2.h10, hF2.h11, hF2.h12, hF2.h13, hF2.h16, fun _ => ⟨rfl, rfl⟩, fun x => absurd (hF2.h20 x).2.2.2.2.1 (by simp)⟩

set_option maxHeartbeats 1600000 in
set_option maxRecDepth 100000 in
theorem s21_20 (Q : Exit → Act → World → Prop) (w W : World) (n0 m0 s0 n1 m1 s1 : ByteArray) (b4 b5 b10 b11 b12 : Bool) (v17 v18 v23 v24 v25 v26 v28 v30 v31 : Value) (hF : Hid (F21 w n0 m0 s0 n1 m1 s1 b4 b5 b10 b11 b12 true true true true true false v17 v18 v23 v24 v25 v26 v28 v30 v31 W)) :
    wpOp Try.prog ops21 Q 20 (fun a' w' => I21 w n0 m0 s0 n1 m1 s1 (#[true, true, true, true, b4, b5, true, true, true, true, b10, b11, b12, true, true, true, true, true, true, true, false, false, false].setIfInBounds 20 true) a' w') ⟨#[.string n0, .string m0, .string s0, .string n1, .string m1, .string s1, undef, undef, undef, undef, undef, undef, .pointer none, .string n0, .string m0, .string s0, lev21 s0, v17, v18, .string n1, .string m1, .string s1, lev21 s1, v23, v24, v25, v26, .string m0, v28, .string m1, v30, v31, undef], []⟩ W := by
  delta ops21 Try.f21
  dsimp only
  refine wpOp_step rfl (fun K hK => ?_)
  have hK : Hid _ := hK
  rw [if_pos (by first | rfl | simp [Region.wanted])]
  go_simp
  refine hK.out _ _ ⟨b4, b5, b10, b11, b12, true, true, true, true, true, true, _, _, _, _, _, _, _, _, _, rfl, rfl, ?_⟩
  have hF2 := hF.out
  exact ⟨hF2.low, hF2.h4, hF2.h5, hF2.h10, hF2.h11, hF2.h12, hF2.h13, hF2.h16, hF2.h19, fun _ => ⟨rfl, rfl, rfl, rfl, rfl, rfl⟩⟩

end Go.Proofs.Qxb6605676a.Kz
