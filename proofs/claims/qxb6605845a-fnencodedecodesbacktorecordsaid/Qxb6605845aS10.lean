import Derived.Test.Qxb6605845aS9
namespace Go.Proofs.Qxb6605845a.Ec
set_option linter.unusedVariables false
set_option linter.unusedSimpArgs false
open Go.RowKit

set_option maxHeartbeats 1600000 in
set_option maxRecDepth 100000 in
theorem size_3 (B rb : Nat) (pv : Value) (rdb rc wrb wc : Nat) (r : RecD) (w : World) (h : RecAt w B rb 3 pv rdb rc wrb wc r) (ok : RecOk r) (hB : B ≤ w.heap.size) :
    Calls Try.prog 33 #[.pointer (some ⟨rb, 0, none⟩)] w fun e w' => e = .returned (.int .i64 (enc 3 r).length) ∧ Below w.heap.size w w' := by
  have HR : Hid (RecAt w B rb 3 pv rdb rc wrb wc r) := h
  have H44 : Hid (Calls Try.prog 44 #[.pointer (some ⟨rb, 1, none⟩)] w fun e w' => e = .returned (.int .i64 (encD r.site r.node r.idSeq).length) ∧ Below w.heap.size w w') := wireSize rb 1 r.site r.node r.idSeq w h.id (by have := ok.site; omega) ok.idSeq
  have H45 : Hid (∀ W, RecAt W B rb 3 pv rdb rc wrb wc r → Calls Try.prog 45 #[pv] W fun e w' => e = .returned (.int .i64 (encI r.parts).length) ∧ W = w') := fun W hW => indexesSize pv r.parts W hW.parts (by have := ok.parts; omega) (by have := ok.partsL; omega)
  have c0 := h.c0
  have k6 := ok.parts
  have k7 : (encD r.site r.node r.idSeq).length ≤ 1048676 := by
    have e1 : (encD r.site r.node r.idSeq).length = ((Lib.uvarint r.site.size).length + r.site.size) + (Lib.uvarint (u64 r.node)).length + (Lib.uvarint r.idSeq).length := by simp [encD, encS]; omega
    have a1 := Lib.uvarint_length64 (x := r.site.size) (by have := ok.site; omega)
    have a2 := Lib.uvarint_length64 (x := u64 r.node) (by have := u64_lt r.node; omega)
    have a3 := Lib.uvarint_length64 (x := r.idSeq) (by have := ok.idSeq; omega)
    have a4 := ok.site
    omega
  have e3 : (enc 3 r).length = 2 + (encD r.site r.node r.idSeq).length := by simp [enc, encTail]; omega
  rw [e3]
  clear h e3
  generalize (encD r.site r.node r.idSeq).length = l1 at *
  generalize (encI r.parts).length = l2 at *
  go_enter Try.func33, Try.ntmps33
  go_wp2_with (first
    | (go_at_call 44; refine Calls.mono H44.out ?_; rintro _ w1 ⟨rfl, hb1⟩
       have HR1 := RecAt.belowB HR.out (hb1.mono hB)
       have d0 := HR1.c0
       have d4 := HR1.c4)
    | (go_at_call 45; refine Calls.mono (H45.out _ (by assumption)) ?_; rintro _ _ ⟨rfl, rfl⟩))
  go_ret
  exact ⟨ret_int (by omega), hb1⟩

set_option maxHeartbeats 1600000 in
set_option maxRecDepth 100000 in
theorem size_4 (B rb : Nat) (pv : Value) (rdb rc wrb wc : Nat) (r : RecD) (w : World) (h : RecAt w B rb 4 pv rdb rc wrb wc r) (ok : RecOk r) (hB : B ≤ w.heap.size) :
    Calls Try.prog 33 #[.pointer (some ⟨rb, 0, none⟩)] w fun e w' => e = .returned (.int .i64 (enc 4 r).length) ∧ Below w.heap.size w w' := by
  have HR : Hid (RecAt w B rb 4 pv rdb rc wrb wc r) := h
  have H44 : Hid (Calls Try.prog 44 #[.pointer (some ⟨rb, 1, none⟩)] w fun e w' => e = .returned (.int .i64 (encD r.site r.node r.idSeq).length) ∧ Below w.heap.size w w') := wireSize rb 1 r.site r.node r.idSeq w h.id (by have := ok.site; omega) ok.idSeq
  have H45 : Hid (∀ W, RecAt W B rb 4 pv rdb rc wrb wc r → Calls Try.prog 45 #[pv] W fun e w' => e = .returned (.int .i64 (encI r.parts).length) ∧ W = w') := fun W hW => indexesSize pv r.parts W hW.parts (by have := ok.parts; omega) (by have := ok.partsL; omega)
  have c0 := h.c0
  have k6 := ok.parts
  have k7 : (encD r.site r.node r.idSeq).length ≤ 1048676 := by
    have e1 : (encD r.site r.node r.idSeq).length = ((Lib.uvarint r.site.size).length + r.site.size) + (Lib.uvarint (u64 r.node)).length + (Lib.uvarint r.idSeq).length := by simp [encD, encS]; omega
    have a1 := Lib.uvarint_length64 (x := r.site.size) (by have := ok.site; omega)
    have a2 := Lib.uvarint_length64 (x := u64 r.node) (by have := u64_lt r.node; omega)
    have a3 := Lib.uvarint_length64 (x := r.idSeq) (by have := ok.idSeq; omega)
    have a4 := ok.site
    omega
  have e3 : (enc 4 r).length = 2 + (encD r.site r.node r.idSeq).length + (encI r.parts).length := by simp [enc, encTail]; omega
  rw [e3]
  clear h e3
  generalize (encD r.site r.node r.idSeq).length = l1 at *
  generalize (encI r.parts).length = l2 at *
  go_enter Try.func33, Try.ntmps33
  go_wp2_with (first
    | (go_at_call 44; refine Calls.mono H44.out ?_; rintro _ w1 ⟨rfl, hb1⟩
       have HR1 := RecAt.belowB HR.out (hb1.mono hB)
       have d0 := HR1.c0
       have d4 := HR1.c4)
    | (go_at_call 45; refine Calls.mono (H45.out _ (by assumption)) ?_; rintro _ _ ⟨rfl, rfl⟩))
  go_ret
  exact ⟨ret_int (by omega), hb1⟩

set_option maxHeartbeats 1600000 in
set_option maxRecDepth 100000 in
theorem size_5 (B rb : Nat) (pv : Value) (rdb rc wrb wc : Nat) (r : RecD) (w : World) (h : RecAt w B rb 5 pv rdb rc wrb wc r) (ok : RecOk r) (hB : B ≤ w.heap.size) :
    Calls Try.prog 33 #[.pointer (some ⟨rb, 0, none⟩)] w fun e w' => e = .returned (.int .i64 (enc 5 r).length) ∧ Below w.heap.size w w' := by
  have HR : Hid (RecAt w B rb 5 pv rdb rc wrb wc r) := h
  have H44 : Hid (Calls Try.prog 44 #[.pointer (some ⟨rb, 1, none⟩)] w fun e w' => e = .returned (.int .i64 (encD r.site r.node r.idSeq).length) ∧ Below w.heap.size w w') := wireSize rb 1 r.site r.node r.idSeq w h.id (by have := ok.site; omega) ok.idSeq
  have H45 : Hid (∀ W, RecAt W B rb 5 pv rdb rc wrb wc r → Calls Try.prog 45 #[pv] W fun e w' => e = .returned (.int .i64 (encI r.parts).length) ∧ W = w') := fun W hW => indexesSize pv r.parts W hW.parts (by have := ok.parts; omega) (by have := ok.partsL; omega)
  have c0 := h.c0
  have k6 := ok.parts
  have k7 : (encD r.site r.node r.idSeq).length ≤ 1048676 := by
    have e1 : (encD r.site r.node r.idSeq).length = ((Lib.uvarint r.site.size).length + r.site.size) + (Lib.uvarint (u64 r.node)).length + (Lib.uvarint r.idSeq).length := by simp [encD, encS]; omega
    have a1 := Lib.uvarint_length64 (x := r.site.size) (by have := ok.site; omega)
    have a2 := Lib.uvarint_length64 (x := u64 r.node) (by have := u64_lt r.node; omega)
    have a3 := Lib.uvarint_length64 (x := r.idSeq) (by have := ok.idSeq; omega)
    have a4 := ok.site
    omega
  have e3 : (enc 5 r).length = 2 + (encD r.site r.node r.idSeq).length := by simp [enc, encTail]; omega
  rw [e3]
  clear h e3
  generalize (encD r.site r.node r.idSeq).length = l1 at *
  generalize (encI r.parts).length = l2 at *
  go_enter Try.func33, Try.ntmps33
  go_wp2_with (first
    | (go_at_call 44; refine Calls.mono H44.out ?_; rintro _ w1 ⟨rfl, hb1⟩
       have HR1 := RecAt.belowB HR.out (hb1.mono hB)
       have d0 := HR1.c0
       have d4 := HR1.c4)
    | (go_at_call 45; refine Calls.mono (H45.out _ (by assumption)) ?_; rintro _ _ ⟨rfl, rfl⟩))
  go_ret
  exact ⟨ret_int (by omega), hb1⟩

set_option maxHeartbeats 1600000 in
set_option maxRecDepth 100000 in
theorem size_6 (B rb : Nat) (pv : Value) (rdb rc wrb wc : Nat) (r : RecD) (w : World) (h : RecAt w B rb 6 pv rdb rc wrb wc r) (ok : RecOk r) (hB : B ≤ w.heap.size) :
    Calls Try.prog 33 #[.pointer (some ⟨rb, 0, none⟩)] w fun e w' => e = .returned (.int .i64 (enc 6 r).length) ∧ Below w.heap.size w w' := by
  have c0 := h.c0
  have c8 := h.c8
  have c9 := h.c9
  have k1 := ok.seq
  have k2 := Lib.uvarint_length64 (x := r.seq) (by omega)
  have e3 : (enc 6 r).length = 2 + (Lib.uvarint r.seq).length := by simp [enc, encTail]; omega
  rw [e3]
  clear h e3
  go_enter Try.func33, Try.ntmps33
  go_wp2_with (go_at_call 43; refine Calls.mono (uvarintSize _ _ (by omega)) ?_; rintro _ _ ⟨rfl, rfl⟩)
  go_ret
  exact ⟨ret_int (by omega), Below.refl _ _⟩

set_option maxHeartbeats 1600000 in
set_option maxRecDepth 100000 in
theorem size_7 (B rb : Nat) (pv : Value) (rdb rc wrb wc : Nat) (r : RecD) (w : World) (h : RecAt w B rb 7 pv rdb rc wrb wc r) (ok : RecOk r) (hB : B ≤ w.heap.size) :
    Calls Try.prog 33 #[.pointer (some ⟨rb, 0, none⟩)] w fun e w' => e = .returned (.int .i64 (enc 7 r).length) ∧ Below w.heap.size w w' := by
  have c0 := h.c0
  have c8 := h.c8
  have c9 := h.c9
  have k1 := ok.seq
  have k2 := Lib.uvarint_length64 (x := 0) (by omega)
  have e3 : (enc 7 r).length = 2 + (Lib.uvarint 0).length := by simp [enc, encTail]; omega
  rw [e3]
  clear h e3
  go_enter Try.func33, Try.ntmps33
  go_wp2_with (go_at_call 43; refine Calls.mono (uvarintSize 0 _ (by omega)) ?_; rintro _ _ ⟨rfl, rfl⟩)
  refine wp_loop_rounds 1 ?_
  rw [rounds_succ]
  go_wp2
  go_ret
  exact ⟨ret_int (by omega), Below.refl _ _⟩

/-- size: the encoding's length. -/
theorem size_any (k B rb : Nat) (pv : Value) (rdb rc wrb wc : Nat) (r : RecD) (w : World) (h : RecAt w B rb k pv rdb rc wrb wc r) (ok : RecOk r) (hB : B ≤ w.heap.size) (hk : 1 ≤ k ∧ k ≤ 7) :
    Calls Try.prog 33 #[.pointer (some ⟨rb, 0, none⟩)] w fun e w' => e = .returned (.int .i64 (enc k r).length) ∧ Below w.heap.size w w' := by
  have hks : k = 1 ∨ k = 2 ∨ k = 3 ∨ k = 4 ∨ k = 5 ∨ k = 6 ∨ k = 7 := by omega
  rcases hks with rfl | rfl | rfl | rfl | rfl | rfl | rfl
  · exact size_1 B rb pv rdb rc wrb wc r w h ok hB
  · exact size_2 B rb pv rdb rc wrb wc r w h ok hB
  · exact size_3 B rb pv rdb rc wrb wc r w h ok hB
  · exact size_4 B rb pv rdb rc wrb wc r w h ok hB
  · exact size_5 B rb pv rdb rc wrb wc r w h ok hB
  · exact size_6 B rb pv rdb rc wrb wc r w h ok hB
  · exact size_7 B rb pv rdb rc wrb wc r w h ok hB
end Go.Proofs.Qxb6605845a.Ec
