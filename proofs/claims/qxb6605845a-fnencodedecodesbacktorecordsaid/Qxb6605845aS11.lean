import Derived.Test.Qxb6605845aS10
import Derived.Deep.RegionHeld3
import Derived.Deep.CutRange
namespace Go.Proofs.Qxb6605845a.Ec
set_option linter.unusedVariables false
set_option linter.unusedSimpArgs false
open Go.RowKit

/-- 'make([]T, 0, n)' at one step of a region that draws its order. -/
theorem wp_make_own {P : Program} (w : World) {o : Oper} {a : Act} {K : Act → World → Prop} {Q : Exit → Act → World → Prop}
    (l c : Operand) (t : TypeId) (hop : o.op = Op.makeSlice t l c)
    (base : Nat) (e : TypeId) (i : TypeInfo) (z : Value) (size : Nat) (h1 : P.underlying t = some (.slice e)) (h2 : P.info? e = some i) (h3 : i.zero = some z) (h4 : i.size = size)
    (kl kc : IntKind) (n : Nat) (hl : a.eval l = .int kl 0) (hc : a.eval c = .int kc n) (b2 : i.bytes * n ≤ 281474976710656) (b3 : n ≤ maxLen) (b4 : base ≤ w.heap.size)
    (hK : ∀ w', w'.ownsRow base e size (.slice (some ⟨w.heap.size, 0, none⟩) 0 n) 0 [] → w.grownBy w' none → K (a.put o.dst (.slice (some ⟨w.heap.size, 0, none⟩) 0 n)) w') :
    Oper.wp P o a w K Q := by
  obtain ⟨w', hrun, r1, r2⟩ := run_make_own (P := P) w base t e i z size h1 h2 h3 h4 kl kc n b2 b3 b4
  unfold Oper.wp
  simp [execOp, hop, hl, hc, hrun, Result.andThen]
  exact hK w' r1 r2

/-- What the first statement of encode leaves: a row of two bytes. -/
def First (w : World) (k : Nat) (v : Value) (wx : World) : Prop := Row wx w.heap.size v [2, k.toUInt8] ∧ Below w.heap.size w wx

theorem first_of {w W w2 : World} {k g c : Nat} {v v' : Value} (hk : k < 256) (hown : W.ownsRow w.heap.size 5 1 v 0 []) (hb : Below w.heap.size w W)
    (hg : W.grownBy w2 v.ownBlock) (ho : w2.ownsRow w.heap.size 5 1 v' (0 + 2) ([] ++ [Value.int .u8 2, Value.int .u8 k])) : First w k v' w2 := by
  refine ⟨?_, hb.grown hg hb.size (fun k hk => (hown.lt k hk).1)⟩
  unfold Row
  have e1 : (k.toUInt8).toNat = k := by simp; omega
  have e : Lib.byteCells [2, k.toUInt8] = [Value.int .u8 2, Value.int .u8 k] := by
    simp only [Lib.byteCells, List.map_cons, List.map_nil, e1]
    rfl
  rw [e]
  simpa using ho

theorem below_none {B : Nat} {w W W' : World} (hb : Below B w W) (hg : W.grownBy W' none) (hB : B ≤ W.heap.size) : Below B w W' := hb.grown hg hB (fun k hk => by cases hk)

theorem news2 {W : World} {g k : Nat} (h0 : W.cell? ⟨g, 0, none⟩ = some (.int .u8 2)) (h1 : W.cell? ⟨g, 1, none⟩ = some (.int .u8 k)) : ∀ j u, [Value.int .u8 2, Value.int .u8 k][j]? = some u → W.cell? ((⟨g, 0, none⟩ : Addr).add j) = some u := by
  intro j u hu
  match j, hu with
  | 0, hu => simp at hu; subst hu; simpa [Addr.add] using h0
  | 1, hu => simp at hu; subst hu; simpa [Addr.add] using h1
theorem news2_one {k : Nat} : ∀ u ∈ [Value.int .u8 2, Value.int .u8 k], u.oneCell' = true := by
  intro u hu
  simp at hu
  rcases hu with rfl | rfl <;> rfl

/-- What an appending function hands back: the bytes out. -/
def Out (B : Nat) (out : List UInt8) (w : World) (e : Ending) (w' : World) : Prop := ∃ v', e = .returned v' ∧ Row w' B v' out ∧ Ap B w w'

theorem encD_len {r : RecD} (ok : RecOk r) : (encD r.site r.node r.idSeq).length ≤ 1048676 := by
  have e1 : (encD r.site r.node r.idSeq).length = ((Lib.uvarint r.site.size).length + r.site.size) + (Lib.uvarint (u64 r.node)).length + (Lib.uvarint r.idSeq).length := by simp [encD, encS]; omega
  have a1 := Lib.uvarint_length64 (x := r.site.size) (by have := ok.site; omega)
  have a2 := Lib.uvarint_length64 (x := u64 r.node) (by have := u64_lt r.node; omega)
  have a3 := Lib.uvarint_length64 (x := r.idSeq) (by have := ok.idSeq; omega)
  have a4 := ok.site
  omega

theorem row_alloc {w : World} {B : Nat} {v : Value} {bs : List UInt8} (h : Row w B v bs) (o : Obj) : Row (w.alloc o) B v bs := World.ownsRow.alloc h o

theorem ap_new {B : Nat} {w w' : World} {cur : Array Value} {T : TypeId} (h : Ap B (w.alloc (.cells cur T)) w') (hT : T ≠ 5) (j : Nat) (v : Value) (hv : cur[j]? = some v) : w'.cell? ⟨w.heap.size, j, none⟩ = some v := by
  rw [Ap.cell (a := ⟨w.heap.size, j, none⟩) (v := v) h (heap_alloc_new w _) hT]
  unfold World.cell?
  rw [heap_alloc_new w]
  simpa using hv

set_option maxHeartbeats 3200000 in
set_option maxRecDepth 100000 in
theorem encode_3 (B rb : Nat) (pv : Value) (rdb rc wrb wc : Nat) (r : RecD) (w : World) (h : RecAt w B rb 3 pv rdb rc wrb wc r) (ok : RecOk r) (hB : B ≤ w.heap.size) (hlen : (enc 3 r).length ≤ 1073741824) :
    Calls Try.prog 32 #[.pointer (some ⟨rb, 0, none⟩)] w fun e w' => ∃ v', e = .returned v' ∧ Row w' w.heap.size v' (enc 3 r) ∧ Below w.heap.size w w' := by
  obtain ⟨i0, hi, hz0, hz1, hz2⟩ := info5
  have HR : Hid (RecAt w B rb 3 pv rdb rc wrb wc r) := h
  have H33 : Hid (∀ W, Below w.heap.size w W → Calls Try.prog 33 #[.pointer (some ⟨rb, 0, none⟩)] W fun e w' => e = .returned (.int .i64 (enc 3 r).length) ∧ Below w.heap.size w w') := fun W hW => (size_any 3 B rb pv rdb rc wrb wc r W (HR.out.belowB (hW.mono hB)) ok (Nat.le_trans hB hW.size) (by omega)).mono fun e w' hh => ⟨hh.1, hW.trans (hh.2.mono hW.size)⟩
  have H33w : Hid (∀ W, Below w.heap.size w W → Calls Try.prog 33 #[.pointer (some ⟨rb, 0, none⟩)] W fun e w' => e = .returned (.int .i64 (enc 3 r).length) ∧ Below w.heap.size w w' ∧ Below W.heap.size W w') := fun W hW => (size_any 3 B rb pv rdb rc wrb wc r W (HR.out.belowB (hW.mono hB)) ok (Nat.le_trans hB hW.size) (by omega)).mono fun e w' hh => ⟨hh.1, hW.trans (hh.2.mono hW.size), hh.2⟩
  have c0 : w.cell? ⟨rb, 0, none⟩ = some (.int .u8 3) := h.c0
  have hrb : rb < w.heap.size := Nat.lt_of_lt_of_le h.rbB hB
  have HRb : Hid (∀ W, Below w.heap.size w W → RecAt W B rb 3 pv rdb rc wrb wc r) := fun W hW => RecAt.belowB HR.out (hW.mono hB)
  clear h
  go_enter Try.func32, Try.ntmps32
  go_upto_region 1 with fail
  go_cut [3] from 10 to 18 (fun v wx => First w 3 v wx)
  case first =>
    refine wp_region_held_drew (S := (fun W => W.cell? ⟨rb, 0, none⟩ = some (.int .u8 3) ∧ Below w.heap.size w W)) (by kernel_rfl) ?_ (fun hHeld => ?_)
    · exact ⟨c0, (Below.refl _ _).drew⟩
    refine wpAnyH_take (i := 0) (v := ?_) rfl (by kernel_rfl) (by kernel_rfl) (by kernel_rfl) (fun _ _ _ h => h) (Or.inl ⟨by rfl, ?_⟩) hHeld ?_
    rotate_left
    · intro w0 hSw; (try dsimp only at hSw); have hSw0 := hSw.1; go_simp <;> with_reducible rfl
    try simp only [Act.put, List.getElem_toArray, List.getElem_cons_zero, List.getElem_cons_succ, List.setIfInBounds_toArray, List.set_cons_zero, List.set_cons_succ]
    refine wpAnyH_take (i := 3) (v := ?_) rfl (by kernel_rfl) (by kernel_rfl) (by kernel_rfl) (fun _ _ _ h => h) (Or.inl ⟨by rfl, ?_⟩) hHeld ?_
    rotate_left
    · intro w0 hSw; (try dsimp only at hSw); have hSw0 := hSw.1; go_simp <;> with_reducible rfl
    try simp only [Act.put, List.getElem_toArray, List.getElem_cons_zero, List.getElem_cons_succ, List.setIfInBounds_toArray, List.set_cons_zero, List.set_cons_succ]
    refine wpAnyH_take (i := 4) (v := ?_) rfl (by kernel_rfl) (by kernel_rfl) (by kernel_rfl) (fun _ _ _ h => h) (Or.inl ⟨by rfl, ?_⟩) hHeld ?_
    rotate_left
    · intro w0 hSw; (try dsimp only at hSw); have hSw0 := hSw.1; go_simp <;> with_reducible rfl
    try simp only [Act.put, List.getElem_toArray, List.getElem_cons_zero, List.getElem_cons_succ, List.setIfInBounds_toArray, List.set_cons_zero, List.set_cons_succ]
    refine wpAnyH_take (i := 5) (v := ?_) rfl (by kernel_rfl) (by kernel_rfl) (by kernel_rfl) (fun _ _ _ h => h) (Or.inl ⟨by rfl, ?_⟩) hHeld ?_
    rotate_left
    · intro w0 hSw; (try dsimp only at hSw); have hSw0 := hSw.1; go_simp <;> with_reducible rfl
    try simp only [Act.put, List.getElem_toArray, List.getElem_cons_zero, List.getElem_cons_succ, List.setIfInBounds_toArray, List.set_cons_zero, List.set_cons_succ]
    refine wpAnyH_take (i := 6) (v := ?_) rfl (by kernel_rfl) (by kernel_rfl) (by kernel_rfl) (fun _ _ _ h => h) (Or.inl ⟨by rfl, ?_⟩) hHeld ?_
    rotate_left
    · intro w0 hSw; (try dsimp only at hSw); have hSw0 := hSw.1; go_simp <;> with_reducible rfl
    try simp only [Act.put, List.getElem_toArray, List.getElem_cons_zero, List.getElem_cons_succ, List.setIfInBounds_toArray, List.set_cons_zero, List.set_cons_succ]
    refine wpAnyH_ready (rs := [1, 7]) (by kernel_rfl) (by simp) ?_
    refine AllReadyH.cons rfl (fun K hK => ?_) (AllReadyH.cons rfl (fun K hK => ?_) AllReadyH.nil)
    · -- the call first
      rw [if_pos (by simp [Region.wanted])]
      go_simp
      refine (H33.out _ hHeld.2).mono ?_
      rintro e w1 ⟨rfl, hb1⟩
      refine hK.out _ _ ⟨by rw [hb1.cell hrb]; exact c0, hb1⟩ (fun hHeld => ?_)
      clear hK K
      try simp only [Act.put, List.getElem_toArray, List.getElem_cons_zero, List.getElem_cons_succ, List.setIfInBounds_toArray, List.set_cons_zero, List.set_cons_succ]
      refine wpAnyH_ready (rs := [2, 7]) (by kernel_rfl) (by simp) ?_
      refine AllReadyH.cons rfl (fun K hK => ?_) (AllReadyH.cons rfl (fun K hK => ?_) AllReadyH.nil)
      · -- then make, then the two bytes
        rw [if_pos (by simp [Region.wanted])]
        refine wp_make_own _ _ _ 33 (by rfl) w.heap.size 5 i0 (.int .u8 0) 1 Try.underlying33 hi hz0 hz1 .i64 .i64 (enc 3 r).length (by rfl) (by rfl) (by rw [hz2]; omega) (by unfold maxLen; omega) hHeld.2.size ?_
        intro w2 hown hgr
        have hbM := below_none hHeld.2 hgr hHeld.2.size
        refine hK.out _ _ ⟨by rw [hbM.cell hrb]; exact c0, hbM⟩ (fun hHeld => ?_)
        clear hK K
        try simp only [Act.put, List.getElem_toArray, List.getElem_cons_zero, List.getElem_cons_succ, List.setIfInBounds_toArray, List.set_cons_zero, List.set_cons_succ]
        refine wpAnyH_ready (rs := [7]) (by kernel_rfl) (by simp) ?_
        refine AllReadyH.cons rfl (fun K hK => ?_) AllReadyH.nil
        rw [if_pos (by simp [Region.wanted])]
        go_simp
        have hbB1 := hHeld.2.alloc (o := .cells #[.int .u8 2, .int .u8 3] 5) hHeld.2.size
        refine hK.out _ _ ⟨by rw [hbB1.cell hrb]; exact c0, hbB1⟩ (fun hHeld => ?_)
        clear hK K
        try simp only [Act.put, List.getElem_toArray, List.getElem_cons_zero, List.getElem_cons_succ, List.setIfInBounds_toArray, List.set_cons_zero, List.set_cons_succ]
        refine wpAnyH_ready (rs := [8]) (by kernel_rfl) (by simp) ?_
        refine AllReadyH.cons rfl (fun K hK => ?_) AllReadyH.nil
        rw [if_pos (by simp [Region.wanted])]
        refine wp_append_own _ _ _ 33 (by rfl) w.heap.size 5 i0 (.int .u8 0) 1 1 Try.underlying33 hi hz0 hz1 hz2 rfl (by decide) _ _ _ (by rfl) (hown.alloc _) ⟨w2.heap.size, 0, none⟩ 2 2 [Value.int .u8 2, Value.int .u8 3] (by rfl) rfl (news2 (by simp) (by simp)) news2_one (by unfold maxLen; omega) (by omega) hHeld.2.size ?_
        intro v3 w3 hown3 hgr3 _
        have hF := first_of (k := 3) (g := 0) (c := 0) (by omega) (hown.alloc _) hHeld.2 hgr3 hown3
        refine hK.out _ _ ⟨by rw [hF.2.cell hrb]; exact c0, hF.2⟩ (fun hHeld => ?_)
        clear hK K
        try simp only [Act.put, List.getElem_toArray, List.getElem_cons_zero, List.getElem_cons_succ, List.setIfInBounds_toArray, List.set_cons_zero, List.set_cons_succ]
        refine wpAnyH_take (i := 9) (v := ?_) rfl (by kernel_rfl) (by kernel_rfl) (by kernel_rfl) (fun _ _ _ h => h) (Or.inl ⟨by rfl, ?_⟩) hHeld ?_
        rotate_left
        · intro w0 hSw; (try dsimp only at hSw); have hSw0 := hSw.1; go_simp <;> with_reducible rfl
        try simp only [Act.put, List.getElem_toArray, List.getElem_cons_zero, List.getElem_cons_succ, List.setIfInBounds_toArray, List.set_cons_zero, List.set_cons_succ]
        refine wpAnyH_done (by kernel_rfl) ?_ _
        go_wp2_with fail
        go_meet
        exact hF
      · -- the two bytes, then make
        rw [if_pos (by simp [Region.wanted])]
        go_simp
        have hbB1 := hHeld.2.alloc (o := .cells #[.int .u8 2, .int .u8 3] 5) hHeld.2.size
        refine hK.out _ _ ⟨by rw [hbB1.cell hrb]; exact c0, hbB1⟩ (fun hHeld => ?_)
        clear hK K
        try simp only [Act.put, List.getElem_toArray, List.getElem_cons_zero, List.getElem_cons_succ, List.setIfInBounds_toArray, List.set_cons_zero, List.set_cons_succ]
        refine wpAnyH_ready (rs := [2]) (by kernel_rfl) (by simp) ?_
        refine AllReadyH.cons rfl (fun K hK => ?_) AllReadyH.nil
        rw [if_pos (by simp [Region.wanted])]
        refine wp_make_own _ _ _ 33 (by rfl) w.heap.size 5 i0 (.int .u8 0) 1 Try.underlying33 hi hz0 hz1 .i64 .i64 (enc 3 r).length (by rfl) (by rfl) (by rw [hz2]; omega) (by unfold maxLen; omega) hHeld.2.size ?_
        intro w2 hown hgr
        have hbM := below_none hHeld.2 hgr hHeld.2.size
        refine hK.out _ _ ⟨by rw [hbM.cell hrb]; exact c0, hbM⟩ (fun hHeld => ?_)
        clear hK K
        try simp only [Act.put, List.getElem_toArray, List.getElem_cons_zero, List.getElem_cons_succ, List.setIfInBounds_toArray, List.set_cons_zero, List.set_cons_succ]
        have n0 := hgr.cell (a := ⟨w1.heap.size, 0, none⟩) (v := .int .u8 2) (by simp) (by simp)
        have n1 := hgr.cell (a := ⟨w1.heap.size, 1, none⟩) (v := .int .u8 3) (by simp) (by simp)
        refine wpAnyH_ready (rs := [8]) (by kernel_rfl) (by simp) ?_
        refine AllReadyH.cons rfl (fun K hK => ?_) AllReadyH.nil
        rw [if_pos (by simp [Region.wanted])]
        refine wp_append_own _ _ _ 33 (by rfl) w.heap.size 5 i0 (.int .u8 0) 1 1 Try.underlying33 hi hz0 hz1 hz2 rfl (by decide) _ _ _ (by rfl) hown ⟨w1.heap.size, 0, none⟩ 2 2 [Value.int .u8 2, Value.int .u8 3] (by rfl) rfl (news2 n0 n1) news2_one (by unfold maxLen; omega) (by omega) hHeld.2.size ?_
        intro v3 w3 hown3 hgr3 _
        have hF := first_of (k := 3) (g := 0) (c := 0) (by omega) hown hHeld.2 hgr3 hown3
        refine hK.out _ _ ⟨by rw [hF.2.cell hrb]; exact c0, hF.2⟩ (fun hHeld => ?_)
        clear hK K
        try simp only [Act.put, List.getElem_toArray, List.getElem_cons_zero, List.getElem_cons_succ, List.setIfInBounds_toArray, List.set_cons_zero, List.set_cons_succ]
        refine wpAnyH_take (i := 9) (v := ?_) rfl (by kernel_rfl) (by kernel_rfl) (by kernel_rfl) (fun _ _ _ h => h) (Or.inl ⟨by rfl, ?_⟩) hHeld ?_
        rotate_left
        · intro w0 hSw; (try dsimp only at hSw); have hSw0 := hSw.1; go_simp <;> with_reducible rfl
        try simp only [Act.put, List.getElem_toArray, List.getElem_cons_zero, List.getElem_cons_succ, List.setIfInBounds_toArray, List.set_cons_zero, List.set_cons_succ]
        refine wpAnyH_done (by kernel_rfl) ?_ _
        go_wp2_with fail
        go_meet
        exact hF
    · -- the two bytes first
      rw [if_pos (by simp [Region.wanted])]
      go_simp
      have hbB1 : Below w.heap.size w ((w.alloc (.cells #[.int .u8 2, .int .u8 3] 5)).drew) := ((Below.refl _ w).alloc (Nat.le_refl _) _).drew
      refine hK.out _ _ ⟨by rw [hbB1.cell hrb]; exact c0, hbB1⟩ (fun hHeld => ?_)
      clear hK K
      try simp only [Act.put, List.getElem_toArray, List.getElem_cons_zero, List.getElem_cons_succ, List.setIfInBounds_toArray, List.set_cons_zero, List.set_cons_succ]
      refine wpAnyH_ready (rs := [1]) (by kernel_rfl) (by simp) ?_
      refine AllReadyH.cons rfl (fun K hK => ?_) AllReadyH.nil
      rw [if_pos (by simp [Region.wanted])]
      go_simp
      refine (H33w.out _ hHeld.2).mono ?_
      rintro e w1 ⟨rfl, hb1, hbW⟩
      refine hK.out _ _ ⟨by rw [hb1.cell hrb]; exact c0, hb1⟩ (fun hHeld => ?_)
      clear hK K
      try simp only [Act.put, List.getElem_toArray, List.getElem_cons_zero, List.getElem_cons_succ, List.setIfInBounds_toArray, List.set_cons_zero, List.set_cons_succ]
      have n0 : w1.cell? ⟨w.heap.size, 0, none⟩ = some (.int .u8 2) := by rw [hbW.cell (by simp)]; simp
      have n1 : w1.cell? ⟨w.heap.size, 1, none⟩ = some (.int .u8 3) := by rw [hbW.cell (by simp)]; simp
      refine wpAnyH_ready (rs := [2]) (by kernel_rfl) (by simp) ?_
      refine AllReadyH.cons rfl (fun K hK => ?_) AllReadyH.nil
      rw [if_pos (by simp [Region.wanted])]
      refine wp_make_own _ _ _ 33 (by rfl) w.heap.size 5 i0 (.int .u8 0) 1 Try.underlying33 hi hz0 hz1 .i64 .i64 (enc 3 r).length (by rfl) (by rfl) (by rw [hz2]; omega) (by unfold maxLen; omega) hHeld.2.size ?_
      intro w2 hown hgr
      have hbM := below_none hHeld.2 hgr hHeld.2.size
      refine hK.out _ _ ⟨by rw [hbM.cell hrb]; exact c0, hbM⟩ (fun hHeld => ?_)
      clear hK K
      try simp only [Act.put, List.getElem_toArray, List.getElem_cons_zero, List.getElem_cons_succ, List.setIfInBounds_toArray, List.set_cons_zero, List.set_cons_succ]
      have n0' := hgr.cell n0 (by simp)
      have n1' := hgr.cell n1 (by simp)
      refine wpAnyH_ready (rs := [8]) (by kernel_rfl) (by simp) ?_
      refine AllReadyH.cons rfl (fun K hK => ?_) AllReadyH.nil
      rw [if_pos (by simp [Region.wanted])]
      refine wp_append_own _ _ _ 33 (by rfl) w.heap.size 5 i0 (.int .u8 0) 1 1 Try.underlying33 hi hz0 hz1 hz2 rfl (by decide) _ _ _ (by rfl) hown ⟨w.heap.size, 0, none⟩ 2 2 [Value.int .u8 2, Value.int .u8 3] (by rfl) rfl (news2 n0' n1') news2_one (by unfold maxLen; omega) (by omega) hHeld.2.size ?_
      intro v3 w3 hown3 hgr3 _
      have hF := first_of (k := 3) (g := 0) (c := 0) (by omega) hown hHeld.2 hgr3 hown3
      refine hK.out _ _ ⟨by rw [hF.2.cell hrb]; exact c0, hF.2⟩ (fun hHeld => ?_)
      clear hK K
      try simp only [Act.put, List.getElem_toArray, List.getElem_cons_zero, List.getElem_cons_succ, List.setIfInBounds_toArray, List.set_cons_zero, List.set_cons_succ]
      refine wpAnyH_take (i := 9) (v := ?_) rfl (by kernel_rfl) (by kernel_rfl) (by kernel_rfl) (fun _ _ _ h => h) (Or.inl ⟨by rfl, ?_⟩) hHeld ?_
      rotate_left
      · intro w0 hSw; (try dsimp only at hSw); have hSw0 := hSw.1; go_simp <;> with_reducible rfl
      try simp only [Act.put, List.getElem_toArray, List.getElem_cons_zero, List.getElem_cons_succ, List.setIfInBounds_toArray, List.set_cons_zero, List.set_cons_succ]
      refine wpAnyH_done (by kernel_rfl) ?_ _
      go_wp2_with fail
      go_meet
      exact hF
  case rest =>
    obtain ⟨hrow0, hbel0⟩ := hcut
    clear H33 H33w hi hz0 hz1 hz2 hlen
    have d0 := (HRb.out _ hbel0).c0
    have hD := encD_len ok
    obtain ⟨b1, hb1⟩ : ∃ b, b = [2, (3 : Nat).toUInt8] ++ encD r.site r.node r.idSeq := ⟨_, rfl⟩
    have hl1 : b1.length ≤ 1048700 := by rw [hb1]; simp; omega
    have H39 : Hid (∀ v W, Row W w.heap.size v [2, (3 : Nat).toUInt8] → Below w.heap.size w W → Calls Try.prog 39 #[.pointer (some ⟨rb, 1, none⟩), v] W (Out w.heap.size b1 W)) := fun v W h1 h2 => by
      rw [hb1]; exact appendWire w.heap.size rb 1 r.site r.node r.idSeq v _ W (HRb.out W h2).id hrb ok.idSeq h1 h2.size (by have := ok.site; simp; omega)
    go_wp2_with (first
      | (go_at_call 39; refine Calls.mono (H39.out _ _ (by assumption) (by assumption)) ?_; rintro _ w1 ⟨v1, rfl, hrow1, hap1⟩; have hbel1 := Below.trans (by assumption) hap1.bel; have d0_1 := (HRb.out _ hbel1).c0; have d4_1 := (HRb.out _ hbel1).c4; have d5_1 := (HRb.out _ hbel1).c5; have d6_1 := (HRb.out _ hbel1).c6; have d7_1 := (HRb.out _ hbel1).c7))
    go_ret
    refine ⟨_, rfl, ?_, hbel1⟩
    have he : enc 3 r = b1 := by rw [hb1]; simp [enc, encTail]
    rw [he]; exact hrow1

end Go.Proofs.Qxb6605845a.Ec
