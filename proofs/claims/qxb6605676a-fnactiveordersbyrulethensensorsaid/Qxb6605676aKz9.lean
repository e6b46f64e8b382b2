import Derived.Test.Qxb6605676aKz8
import Derived.Test.Qxb6605676aRm2
import Derived.Deep.RegionHeld3
namespace Go.Proofs.Qxb6605676a.Kz
set_option linter.unusedVariables false
set_option linter.unusedSimpArgs false
open Go.RowKit Go.Proofs.Qxb6605676a.Mp Go.Proofs.Qxb6605676a.Tm Go.Proofs.Qxb6605676a.En

/-- Rows of n cells, the j-th as f says, from cell 0 of block b. -/
def RowsAt {α} (w : World) (b n : Nat) (f : α → List Value) (L : List α) : Prop := ∀ j x, L[j]? = some x → w.rangeAt b (j * n) (f x)

theorem range_below {W W' : World} {b o : Nat} {cs : List Value} (h : W.rangeAt b o cs) (hb : Below W.heap.size W W') : W'.rangeAt b o cs := by
  intro j v hv
  have := h j v hv
  rw [hb.cell (World.block_lt_of_cell? W _ this)]; exact this
theorem RowsAt.below {α} {W W' : World} {b n : Nat} {f : α → List Value} {L : List α} (h : RowsAt W b n f L) (hb : Below W.heap.size W W') : RowsAt W' b n f L := fun j x hx => range_below (h j x hx) hb

theorem RowsAt.snoc {α} {W : World} {b n k : Nat} {f : α → List Value} {L : List α} (h : RowsAt W b n f (L.take k)) (hk : k < L.length) (hf : ∀ x, (f x).length = n) (ht : W.there b (k * n) n) : RowsAt (W.setCells b (k * n) (f L[k])) b n f (L.take (k + 1)) := by
  intro j x hx
  have hj : j < (L.take (k + 1)).length := (List.getElem?_eq_some_iff.1 hx).1
  have hj2 : j < k + 1 := by simp at hj; omega
  rw [List.getElem?_take_of_lt hj2] at hx
  by_cases e : j = k
  · subst e
    rw [List.getElem?_eq_getElem hk] at hx
    obtain rfl := Option.some.inj hx
    exact World.rangeAt_setCells_same W b (j * n) _ (by rw [hf]; exact ht)
  · refine World.rangeAt_setCells_apart (h j x (by rw [List.getElem?_take_of_lt (by omega)]; exact hx)) _ _ _ (.inr (.inl ?_))
    rw [hf]
    have : (j + 1) * n ≤ k * n := Nat.mul_le_mul_right n (by omega)
    rw [Nat.succ_mul] at this
    exact this

theorem there_below {W W' : World} {b o n : Nat} (h : W.there b o n) (hb : Below W.heap.size W W') (hbl : b < W.heap.size) : W'.there b o n := by
  intro j hj
  rw [hb.cell (p := ⟨b, o + j, none⟩) hbl, hb.frozen (p := ⟨b, o + j, none⟩) hbl]
  exact h j hj
theorem there_own {W : World} {base e size b n c : Nat} {xs : List Value} (h : W.ownsRow base e size (.slice (some ⟨b, 0, none⟩) n c) n xs) : W.there b 0 (c * size) ∧ b < W.heap.size := by
  rcases h.2 with ⟨hv, _⟩ | ⟨g, cap', cur, hv, _, hg, _, _, hcs, _⟩
  · cases hv
  · simp at hv
    obtain ⟨rfl, rfl⟩ := hv
    refine ⟨?_, (Array.getElem?_eq_some_iff.1 hg).1⟩
    rw [← hcs]
    exact there_of_block hg
theorem Below.step {w W W2 : World} (h : Below w.heap.size w W) (h2 : Below W.heap.size W W2) : Below w.heap.size w W2 := h.trans (h2.mono h.size)
theorem below_undrew {W W' : World} (h : Below W.drew.heap.size W.drew W') : Below W.heap.size W W' := ⟨h.os, h.tape, h.output, h.size, h.block⟩
theorem time55 (x : Int) (W : World) (h : -9223372036854775808 ≤ x ∧ x ≤ 9223372036854775807) : Calls Try.prog 55 #[.int .i64 x] W fun e w' => e = .returned (.agg #[.int .u64 (x % 1000000000), .int .i64 (x / 1000000000), .pointer none]) ∧ Below W.heap.size W w' := by
  have := zztime_any x W h.1 h.2
  rw [T_def] at this
  exact this

theorem zsR {W : World} {b p : Nat} {q : ZS} (h : W.rangeAt b p (zsCells q)) : W.cell? ⟨b, p, none⟩ = some (.string q.sensor) ∧ W.cell? ⟨b, p + 1, none⟩ = some (.string q.metric) ∧ W.cell? ⟨b, p + 2, none⟩ = some (.int .i64 q.last) :=
  ⟨by simpa using h 0 _ rfl, h 1 _ rfl, h 2 _ rfl⟩
theorem zrR {W : World} {b p : Nat} {q : ZR} (h : W.rangeAt b p (zrCells q)) : W.cell? ⟨b, p, none⟩ = some (.string q.rule) ∧ W.cell? ⟨b, p + 1, none⟩ = some (.string q.sev) ∧ W.cell? ⟨b, p + 2, none⟩ = some (.string q.sensor) ∧ W.cell? ⟨b, p + 3, none⟩ = some (.string q.metric) ∧ W.cell? ⟨b, p + 4, none⟩ = some (.int .i64 q.ts) ∧ W.cell? ⟨b, p + 5, none⟩ = some (.float .f64 q.val) ∧ W.cell? ⟨b, p + 6, none⟩ = some (.int .i64 q.raised) :=
  ⟨by simpa using h 0 _ rfl, h 1 _ rfl, h 2 _ rfl, h 3 _ rfl, h 4 _ rfl, h 5 _ rfl, h 6 _ rfl⟩
theorem zkR {W : World} {b p : Nat} {q : ZK} (h : W.rangeAt b p (zkCells q)) : W.cell? ⟨b, p, none⟩ = some (.string q.rule) ∧ W.cell? ⟨b, p + 1, none⟩ = some (.string q.sensor) ∧ W.cell? ⟨b, p + 2, none⟩ = some (.string q.metric) ∧ W.cell? ⟨b, p + 3, none⟩ = some (.string q.sev) ∧ W.cell? ⟨b, p + 4, none⟩ = some (.string q.state) ∧ W.cell? ⟨b, p + 5, none⟩ = some (.int .i64 q.since) ∧ W.cell? ⟨b, p + 6, none⟩ = some (.int .i64 q.lts) ∧ W.cell? ⟨b, p + 7, none⟩ = some (.float .f64 q.val) ∧ W.cell? ⟨b, p + 8, none⟩ = some (.bool q.cl) ∧ W.cell? ⟨b, p + 9, none⟩ = some (.int .i64 q.cs) ∧ W.cell? ⟨b, p + 10, none⟩ = some (.int .i64 q.cool) :=
  ⟨by simpa using h 0 _ rfl, h 1 _ rfl, h 2 _ rfl, h 3 _ rfl, h 4 _ rfl, h 5 _ rfl, h 6 _ rfl, h 7 _ rfl, h 8 _ rfl, h 9 _ rfl, h 10 _ rfl⟩

def ssCells (q : ZS) : List Value := [.string q.sensor, .string q.metric, .int .u64 (q.last % 1000000000), .int .i64 (q.last / 1000000000), .pointer none]
/-- A transition: rule, severity, kind, the reading, the time of the raise, 'lowered'. -/
def tnCells (q : ZR) : List Value := [.string q.rule, .string q.sev, .string ⟨#[70, 73, 82, 73, 78, 71]⟩, .int .u64 (q.ts % 1000000000), .int .i64 (q.ts / 1000000000), .pointer none, .string q.sensor, .string q.metric, .float .f64 q.val, .int .u64 (q.raised % 1000000000), .int .i64 (q.raised / 1000000000), .pointer none, .bool false]
def ksCells (q : ZK) : List Value := [.string q.rule, .string q.sensor, .string q.metric, .string q.sev, .string q.state, .int .u64 (q.since % 1000000000), .int .i64 (q.since / 1000000000), .pointer none, .int .u64 (q.lts % 1000000000), .int .i64 (q.lts / 1000000000), .pointer none, .string q.sensor, .string q.metric, .float .f64 q.val, .bool q.cl, .int .u64 (q.cs % 1000000000), .int .i64 (q.cs / 1000000000), .pointer none, .int .u64 (q.cool % 1000000000), .int .i64 (q.cool / 1000000000), .pointer none]

def I64 (x : Int) : Prop := -9223372036854775808 ≤ x ∧ x ≤ 9223372036854775807
structure ZK.Ok (q : ZK) : Prop where
  since : I64 q.since
  lts : I64 q.lts
  cs : I64 q.cs
  cool : I64 q.cool
structure ZR.Ok (q : ZR) : Prop where
  ts : I64 q.ts
  raised : I64 q.raised

theorem info139 : ∃ i z, Try.prog.info? 139 = some i ∧ i.zero = some z ∧ i.size = 5 ∧ i.bytes = 56 := by
  have h : (Try.prog.info? 139).any (fun i => i.zero.isSome && i.size == 5 && i.bytes == 56) = true := by kernel_rfl
  cases hj : Try.prog.info? 139 with
  | none => rw [hj] at h; cases h
  | some i =>
    rw [hj] at h
    simp at h
    obtain ⟨⟨h1, h2⟩, h3⟩ := h
    obtain ⟨z, hz⟩ := Option.isSome_iff_exists.1 h1
    exact ⟨i, z, rfl, hz, h2, h3⟩

set_option maxHeartbeats 1600000 in
set_option maxRecDepth 100000 in
theorem zzseriesStates (L : List ZS) (ao : Option Addr) (cap : Nat) (w : World) (hA : L = [] ∨ ∃ sb o, ao = some ⟨sb, o, none⟩ ∧ SeriesAt w sb o L) (hok : ∀ q ∈ L, I64 q.last) (hl : L.length ≤ 4096) :
    Calls Try.prog 27 #[.slice ao L.length cap] w fun e w' => e = .returned (.slice (some ⟨w.heap.size, 0, none⟩) L.length L.length) ∧ RowsAt w' w.heap.size 5 ssCells L ∧ Below w.heap.size w w' ∧ w.heap.size < w'.heap.size := by
  obtain ⟨i, z, hi, hz, hs, hby⟩ := info139
  go_enter Try.func27, Try.ntmps27
  go_wp2_with (at_make; refine wpList_make_full _ rfl _ _ 35 rfl w.heap.size 139 i z 5 Try.underlying35 hi hz hs .i64 .i64 _ _ L.length rfl rfl rfl rfl (by rw [hby]; omega) (by unfold maxLen; omega) (Nat.le_refl _) ?_; intro w1 hown hgr)
  have hB1 : Below w.heap.size w w1 := ⟨hgr.os, hgr.tape, hgr.output, hgr.size, fun k hk => hgr.block k hk (by simp)⟩
  obtain ⟨hT1, hS1⟩ := there_own hown
  clear hown hgr hi hz hs hby
  go_loopw [4] (fun x wr => ∃ k : Nat, k ≤ L.length ∧ x = .int .i64 k ∧ Below w.heap.size w wr ∧ wr.there w.heap.size 0 (L.length * 5) ∧ RowsAt wr w.heap.size 5 ssCells (L.take k) ∧ w.heap.size < wr.heap.size) (fun x _ => L.length - (intOf x).toNat)
  case atStart => exact ⟨0, Nat.zero_le _, rfl, hB1, hT1, by intro j k hk; simp at hk, hS1⟩
  case round =>
    clear hB1 hT1 hS1
    obtain ⟨k, hk, rfl, hb, ht, hK, hS⟩ := hrel
    by_cases hkl : k < L.length
    · rcases hA with rfl | ⟨sb, o, rfl, h⟩
      · simp at hkl
      have hr0 : w.rangeAt sb (o + k * 3) (zsCells L[k]) := h.range k hkl
      have hsb : sb < w.heap.size := World.block_lt_of_cell? w ⟨sb, o + k * 3 + 0, none⟩ (hr0 0 _ rfl)
      have hr1 : wr.rangeAt sb (o + k * 3) (zsCells L[k]) := (h.below hb).range k hkl
      have hq := hok L[k] (List.getElem_mem hkl)
      have HT0 : Hid (wr.there w.heap.size (k * 5) 5) := there_mono ht (by omega) (by omega)
      have HT9 : Hid (wr.there w.heap.size 0 (L.length * 5)) := ht
      have HK0 : Hid (RowsAt wr w.heap.size 5 ssCells (L.take k)) := hK
      clear ht hK hr0 h hok
      generalize hgk : L[k] = q at *
      have HR : Hid (wr.rangeAt sb (o + k * 3) (zsCells q)) := hr1
      clear hr1
      go_upto_region 5 with fail
      refine wp_region_held_drew (S := (fun W => W.rangeAt sb (o + k * 3) (zsCells q))) (by kernel_rfl) ?_ (fun hHeld => ?_)
      · exact HR.out
      refine wpAnyH_take (i := 0) (v := ?_) rfl (by kernel_rfl) (by kernel_rfl) (by kernel_rfl) (fun _ _ _ h => h) (Or.inl ⟨by rfl, ?_⟩) hHeld ?_
      rotate_left
      · intro w0 hSw; (try dsimp only at hSw); obtain ⟨f0, f1, f2⟩ := zsR hSw; go_simp <;> with_reducible rfl
      try simp only [Act.put, List.getElem_toArray, List.getElem_cons_zero, List.getElem_cons_succ, List.setIfInBounds_toArray, List.set_cons_zero, List.set_cons_succ]
      refine wpAnyH_take (i := 1) (v := ?_) rfl (by kernel_rfl) (by kernel_rfl) (by kernel_rfl) (fun _ _ _ h => h) (Or.inl ⟨by rfl, ?_⟩) hHeld ?_
      rotate_left
      · intro w0 hSw; (try dsimp only at hSw); obtain ⟨f0, f1, f2⟩ := zsR hSw; go_simp <;> with_reducible rfl
      try simp only [Act.put, List.getElem_toArray, List.getElem_cons_zero, List.getElem_cons_succ, List.setIfInBounds_toArray, List.set_cons_zero, List.set_cons_succ]
      refine wpAnyH_take (i := 2) (v := ?_) rfl (by kernel_rfl) (by kernel_rfl) (by kernel_rfl) (fun _ _ _ h => h) (Or.inl ⟨by rfl, ?_⟩) hHeld ?_
      rotate_left
      · intro w0 hSw; (try dsimp only at hSw); obtain ⟨f0, f1, f2⟩ := zsR hSw; go_simp <;> with_reducible rfl
      try simp only [Act.put, List.getElem_toArray, List.getElem_cons_zero, List.getElem_cons_succ, List.setIfInBounds_toArray, List.set_cons_zero, List.set_cons_succ]
      refine wpAnyH_take (i := 3) (v := ?_) rfl (by kernel_rfl) (by kernel_rfl) (by kernel_rfl) (fun _ _ _ h => h) (Or.inl ⟨by rfl, ?_⟩) hHeld ?_
      rotate_left
      · intro w0 hSw; (try dsimp only at hSw); obtain ⟨f0, f1, f2⟩ := zsR hSw; go_simp <;> with_reducible rfl
      try simp only [Act.put, List.getElem_toArray, List.getElem_cons_zero, List.getElem_cons_succ, List.setIfInBounds_toArray, List.set_cons_zero, List.set_cons_succ]
      refine wpAnyH_take (i := 4) (v := ?_) rfl (by kernel_rfl) (by kernel_rfl) (by kernel_rfl) (fun _ _ _ h => h) (Or.inl ⟨by rfl, ?_⟩) hHeld ?_
      rotate_left
      · intro w0 hSw; (try dsimp only at hSw); obtain ⟨f0, f1, f2⟩ := zsR hSw; go_simp <;> with_reducible rfl
      try simp only [Act.put, List.getElem_toArray, List.getElem_cons_zero, List.getElem_cons_succ, List.setIfInBounds_toArray, List.set_cons_zero, List.set_cons_succ]
      refine wpAnyH_take (i := 5) (v := ?_) rfl (by kernel_rfl) (by kernel_rfl) (by kernel_rfl) (fun _ _ _ h => h) (Or.inl ⟨by rfl, ?_⟩) hHeld ?_
      rotate_left
      · intro w0 hSw; (try dsimp only at hSw); obtain ⟨f0, f1, f2⟩ := zsR hSw; go_simp <;> with_reducible rfl
      try simp only [Act.put, List.getElem_toArray, List.getElem_cons_zero, List.getElem_cons_succ, List.setIfInBounds_toArray, List.set_cons_zero, List.set_cons_succ]
      refine wpAnyH_take (i := 6) (v := ?_) rfl (by kernel_rfl) (by kernel_rfl) (by kernel_rfl) (fun _ _ _ h => h) (Or.inl ⟨by rfl, ?_⟩) hHeld ?_
      rotate_left
      · intro w0 hSw; (try dsimp only at hSw); obtain ⟨f0, f1, f2⟩ := zsR hSw; go_simp <;> with_reducible rfl
      try simp only [Act.put, List.getElem_toArray, List.getElem_cons_zero, List.getElem_cons_succ, List.setIfInBounds_toArray, List.set_cons_zero, List.set_cons_succ]
      refine wpAnyH_take (i := 7) (v := ?_) rfl (by kernel_rfl) (by kernel_rfl) (by kernel_rfl) (fun _ _ _ h => h) (Or.inl ⟨by rfl, ?_⟩) hHeld ?_
      rotate_left
      · intro w0 hSw; (try dsimp only at hSw); obtain ⟨f0, f1, f2⟩ := zsR hSw; go_simp <;> with_reducible rfl
      try simp only [Act.put, List.getElem_toArray, List.getElem_cons_zero, List.getElem_cons_succ, List.setIfInBounds_toArray, List.set_cons_zero, List.set_cons_succ]
      refine wpAnyH_take (i := 8) (v := ?_) rfl (by kernel_rfl) (by kernel_rfl) (by kernel_rfl) (fun _ _ _ h => h) (Or.inl ⟨by rfl, ?_⟩) hHeld ?_
      rotate_left
      · intro w0 hSw; (try dsimp only at hSw); obtain ⟨f0, f1, f2⟩ := zsR hSw; go_simp <;> with_reducible rfl
      try simp only [Act.put, List.getElem_toArray, List.getElem_cons_zero, List.getElem_cons_succ, List.setIfInBounds_toArray, List.set_cons_zero, List.set_cons_succ]
      refine wpAnyH_take (i := 9) (v := ?_) rfl (by kernel_rfl) (by kernel_rfl) (by kernel_rfl) (fun _ _ _ h => h) (Or.inl ⟨by rfl, ?_⟩) hHeld ?_
      rotate_left
      · intro w0 hSw; (try dsimp only at hSw); obtain ⟨f0, f1, f2⟩ := zsR hSw; go_simp <;> with_reducible rfl
      try simp only [Act.put, List.getElem_toArray, List.getElem_cons_zero, List.getElem_cons_succ, List.setIfInBounds_toArray, List.set_cons_zero, List.set_cons_succ]
      refine wpAnyH_take (i := 10) (v := ?_) rfl (by kernel_rfl) (by kernel_rfl) (by kernel_rfl) (fun _ _ _ h => h) (Or.inl ⟨by rfl, ?_⟩) hHeld ?_
      rotate_left
      · intro w0 hSw; (try dsimp only at hSw); obtain ⟨f0, f1, f2⟩ := zsR hSw; go_simp <;> with_reducible rfl
      try simp only [Act.put, List.getElem_toArray, List.getElem_cons_zero, List.getElem_cons_succ, List.setIfInBounds_toArray, List.set_cons_zero, List.set_cons_succ]
      refine wpAnyH_take (i := 11) (v := ?_) rfl (by kernel_rfl) (by kernel_rfl) (by kernel_rfl) (fun _ _ _ h => h) (Or.inl ⟨by rfl, ?_⟩) hHeld ?_
      rotate_left
      · intro w0 hSw; (try dsimp only at hSw); obtain ⟨f0, f1, f2⟩ := zsR hSw; go_simp <;> with_reducible rfl
      try simp only [Act.put, List.getElem_toArray, List.getElem_cons_zero, List.getElem_cons_succ, List.setIfInBounds_toArray, List.set_cons_zero, List.set_cons_succ]
      refine wpAnyH_take (i := 12) (v := ?_) rfl (by kernel_rfl) (by kernel_rfl) (by kernel_rfl) (fun _ _ _ h => h) (Or.inl ⟨by rfl, ?_⟩) hHeld ?_
      rotate_left
      · intro w0 hSw; (try dsimp only at hSw); obtain ⟨f0, f1, f2⟩ := zsR hSw; go_simp <;> with_reducible rfl
      try simp only [Act.put, List.getElem_toArray, List.getElem_cons_zero, List.getElem_cons_succ, List.setIfInBounds_toArray, List.set_cons_zero, List.set_cons_succ]
      refine wpAnyH_take (i := 13) (v := ?_) rfl (by kernel_rfl) (by kernel_rfl) (by kernel_rfl) (fun _ _ _ h => h) (Or.inl ⟨by rfl, ?_⟩) hHeld ?_
      rotate_left
      · intro w0 hSw; (try dsimp only at hSw); obtain ⟨f0, f1, f2⟩ := zsR hSw; go_simp <;> with_reducible rfl
      try simp only [Act.put, List.getElem_toArray, List.getElem_cons_zero, List.getElem_cons_succ, List.setIfInBounds_toArray, List.set_cons_zero, List.set_cons_succ]
      refine wpAnyH_take (i := 14) (v := ?_) rfl (by kernel_rfl) (by kernel_rfl) (by kernel_rfl) (fun _ _ _ h => h) (Or.inl ⟨by rfl, ?_⟩) hHeld ?_
      rotate_left
      · intro w0 hSw; (try dsimp only at hSw); obtain ⟨f0, f1, f2⟩ := zsR hSw; go_simp <;> with_reducible rfl
      try simp only [Act.put, List.getElem_toArray, List.getElem_cons_zero, List.getElem_cons_succ, List.setIfInBounds_toArray, List.set_cons_zero, List.set_cons_succ]
      refine wpAnyH_take (i := 15) (v := ?_) rfl (by kernel_rfl) (by kernel_rfl) (by kernel_rfl) (fun _ _ _ h => h) (Or.inl ⟨by rfl, ?_⟩) hHeld ?_
      rotate_left
      · intro w0 hSw; (try dsimp only at hSw); obtain ⟨f0, f1, f2⟩ := zsR hSw; go_simp <;> with_reducible rfl
      try simp only [Act.put, List.getElem_toArray, List.getElem_cons_zero, List.getElem_cons_succ, List.setIfInBounds_toArray, List.set_cons_zero, List.set_cons_succ]
      refine wpAnyH_take (i := 16) (v := ?_) rfl (by kernel_rfl) (by kernel_rfl) (by kernel_rfl) (fun _ _ _ h => h) (Or.inl ⟨by rfl, ?_⟩) hHeld ?_
      rotate_left
      · intro w0 hSw; (try dsimp only at hSw); obtain ⟨f0, f1, f2⟩ := zsR hSw; go_simp <;> with_reducible rfl
      try simp only [Act.put, List.getElem_toArray, List.getElem_cons_zero, List.getElem_cons_succ, List.setIfInBounds_toArray, List.set_cons_zero, List.set_cons_succ]
      refine wpAnyH_ready (rs := [17]) (by kernel_rfl) (by simp) ?_
      refine AllReadyH.cons rfl (fun K hK => ?_) AllReadyH.nil
      rw [if_pos (by simp [Region.wanted])]
      go_simp
      refine (time55 q.last _ hq).mono ?_
      rintro e c0 ⟨rfl, bc0⟩
      have bc0' : Below wr.heap.size wr c0 := below_undrew bc0
      refine hK.out _ _ (range_below HR.out bc0') (fun hHeld => ?_)
      clear hK K
      try simp only [Act.put, List.getElem_toArray, List.getElem_cons_zero, List.getElem_cons_succ, List.setIfInBounds_toArray, List.set_cons_zero, List.set_cons_succ]
      refine wpAnyH_take (i := 18) (v := ?_) rfl (by kernel_rfl) (by kernel_rfl) (by kernel_rfl) (fun _ _ _ h => h) (Or.inl ⟨by rfl, ?_⟩) hHeld ?_
      rotate_left
      · intro w0 hSw; (try dsimp only at hSw); obtain ⟨f0, f1, f2⟩ := zsR hSw; go_simp <;> with_reducible rfl
      try simp only [Act.put, List.getElem_toArray, List.getElem_cons_zero, List.getElem_cons_succ, List.setIfInBounds_toArray, List.set_cons_zero, List.set_cons_succ]
      refine wpAnyH_take (i := 19) (v := ?_) rfl (by kernel_rfl) (by kernel_rfl) (by kernel_rfl) (fun _ _ _ h => h) (Or.inl ⟨by rfl, ?_⟩) hHeld ?_
      rotate_left
      · intro w0 hSw; (try dsimp only at hSw); obtain ⟨f0, f1, f2⟩ := zsR hSw; go_simp <;> with_reducible rfl
      try simp only [Act.put, List.getElem_toArray, List.getElem_cons_zero, List.getElem_cons_succ, List.setIfInBounds_toArray, List.set_cons_zero, List.set_cons_succ]
      refine wpAnyH_ready (rs := [20]) (by kernel_rfl) (by simp) ?_
      refine AllReadyH.cons rfl (fun K hK => ?_) AllReadyH.nil
      rw [if_pos (by simp [Region.wanted])]
      have HT8 := there_below HT0.out bc0' hS
      refine wp_store_mid 139 (.tmp 33) (.tmp 32) (by rfl) w.heap.size (k * 5) (ssCells q).toArray (by rfl) (by rfl) HT8 (by kernel_rfl) (by simp [ssCells, Value.oneCell']) ?_
      refine hK.out _ _ (World.rangeAt_setCells_apart (range_below HR.out bc0') _ _ _ (.inl (by omega))) (fun hHeld => ?_)
      clear hK K
      try simp only [Act.put, List.getElem_toArray, List.getElem_cons_zero, List.getElem_cons_succ, List.setIfInBounds_toArray, List.set_cons_zero, List.set_cons_succ]
      refine wpAnyH_done (by kernel_rfl) ?_ _
      have hK8 : RowsAt (c0.setCells w.heap.size (k * 5) (ssCells q).toArray.toList) w.heap.size 5 ssCells (L.take (k + 1)) := by
        have := (HK0.out.below bc0').snoc hkl (fun _ => rfl) HT8
        rw [hgk] at this
        exact this
      have hT8 := World.there_setCells (there_below HT9.out bc0' hS) w.heap.size (k * 5) (ssCells q).toArray.toList
      have hb9 : Below w.heap.size w (c0.setCells w.heap.size (k * 5) (ssCells q).toArray.toList) := below_setCells (Nat.le_refl _) _ _ _ (Below.step hb bc0')
      have hS9 : w.heap.size < (c0.setCells w.heap.size (k * 5) (ssCells q).toArray.toList).heap.size := by rw [size_setCells]; exact Nat.lt_of_lt_of_le hS bc0'.size
      go_wp2
      exact ⟨⟨k + 1, by omega, by go_num, hb9, hT8, hK8, hS9⟩, by simp [intOf]; omega⟩
    · go_wp2
      go_ret
      rw [List.take_of_length_le (by omega)] at hK
      exact ⟨rfl, hK, hb, hS⟩

end Go.Proofs.Qxb6605676a.Kz
