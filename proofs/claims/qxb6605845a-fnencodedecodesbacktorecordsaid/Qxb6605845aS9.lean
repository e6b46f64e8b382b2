import Derived.Test.Qxb6605845aS8
namespace Go.Proofs.Qxb6605845a.Ec
set_option linter.unusedVariables false
set_option linter.unusedSimpArgs false
open Go.RowKit

/-- The shape of a slice of bytes, whatever its cells hold. -/
inductive BShape : Value → Option (List UInt8) → Prop
  | nil : BShape (.slice none 0 0) none
  | row (b : Nat) (L : List UInt8) (c : Nat) : BShape (.slice (some ⟨b, 0, none⟩) L.length c) (some L)

theorem BVal.shape {w : World} {v : Value} {o : Option (List UInt8)} (h : BVal w v o) : BShape v o := by
  cases h with
  | nil => exact .nil
  | row b L c h => exact .row b _ c

set_option maxHeartbeats 400000 in
theorem bytesSizeS (v : Value) (o : Option (List UInt8)) (w : World) (hv : BShape v o) (hn : (encB o).length < 2 ^ 48) :
    Calls Try.prog 47 #[v] w fun e w' => e = .returned (.int .i64 (encB o).length) ∧ w = w' := by
  cases hv with
  | nil =>
    have hnil := fun (W : World) => eql_nil_none Try.underlying33 W
    go_enter Try.func47, Try.ntmps47
    go_wp2
    go_ret
    exact ⟨ret_int (by simp [encB]), rfl⟩
  | row b L c =>
    have hnil := fun (W : World) => eql_nil_some Try.underlying33 ⟨b, 0, none⟩ L.length c W
    simp [encB] at hn
    have e1 : ((encB (some L)).length : Int) = 1 + ((Lib.uvarint L.length).length + L.length : Nat) := by simp [encB]; omega
    rw [e1]
    generalize hm : (Lib.uvarint L.length).length + L.length = m at *
    go_enter Try.func47, Try.ntmps47
    go_wp2_with (go_at_call 46; refine (stringSize L.length w (by omega)).mono ?_; rintro _ _ ⟨rfl, rfl⟩)
    go_ret
    exact ⟨ret_int (by omega), rfl⟩

theorem below_alloc_drewN {w wr : World} (hb : Below w.heap.size w wr) (o : Obj) (nq : Nat) : Below w.heap.size w ((wr.alloc o).drewN nq) :=
  (hb.alloc hb.size o).trans ⟨rfl, rfl, rfl, Nat.le_refl _, fun _ _ => rfl⟩

set_option maxHeartbeats 1600000 in
set_option maxRecDepth 100000 in
theorem size_1 (B rb : Nat) (pv : Value) (rdb rc wrb wc : Nat) (r : RecD) (w : World) (h : RecAt w B rb 1 pv rdb rc wrb wc r) (ok : RecOk r) (hB : B ≤ w.heap.size) :
    Calls Try.prog 33 #[.pointer (some ⟨rb, 0, none⟩)] w fun e w' => e = .returned (.int .i64 (enc 1 r).length) ∧ Below w.heap.size w w' := by
  have HR : Hid (RecAt w B rb 1 pv rdb rc wrb wc r) := h
  have H44 : Hid (Calls Try.prog 44 #[.pointer (some ⟨rb, 1, none⟩)] w fun e w' => e = .returned (.int .i64 (encD r.site r.node r.idSeq).length) ∧ Below w.heap.size w w') := wireSize rb 1 r.site r.node r.idSeq w h.id (by have := ok.site; omega) ok.idSeq
  have H45 : Hid (∀ W, RecAt W B rb 1 pv rdb rc wrb wc r → Calls Try.prog 45 #[pv] W fun e w' => e = .returned (.int .i64 (encI r.parts).length) ∧ W = w') := fun W hW => indexesSize pv r.parts W hW.parts (by have := ok.parts; omega) (by have := ok.partsL; omega)
  have c0 := h.c0
  have k1 := ok.ticket
  have k2 := ok.readsL
  have k3 := ok.writesL
  have k4 := ok.reads
  have k5 := ok.writes
  have k6 := ok.parts
  have k7 : (encD r.site r.node r.idSeq).length ≤ 1048676 := by
    have e1 : (encD r.site r.node r.idSeq).length = ((Lib.uvarint r.site.size).length + r.site.size) + (Lib.uvarint (u64 r.node)).length + (Lib.uvarint r.idSeq).length := by simp [encD, encS]; omega
    have a1 := Lib.uvarint_length64 (x := r.site.size) (by have := ok.site; omega)
    have a2 := Lib.uvarint_length64 (x := u64 r.node) (by have := u64_lt r.node; omega)
    have a3 := Lib.uvarint_length64 (x := r.idSeq) (by have := ok.idSeq; omega)
    have a4 := ok.site
    omega
  have k8 := Lib.uvarint_length64 (x := r.ticket) (by omega)
  have k9 := Lib.uvarint_length64 (x := r.reads.length) (by omega)
  have e1 : (encR r.reads).length = (Lib.uvarint r.reads.length).length + (cat encP r.reads).length := by simp [encR]
  have e2 : (encW r.writes).length = (Lib.uvarint r.writes.length).length + (cat encQ r.writes).length := by simp [encW]
  have e3 : (enc 1 r).length = 2 + (encD r.site r.node r.idSeq).length + (encI r.parts).length + (Lib.uvarint r.ticket).length + (encR r.reads).length + (encW r.writes).length := by simp [enc, encTail]; omega
  rw [e3]
  clear h e3
  generalize (encD r.site r.node r.idSeq).length = l1 at *
  generalize (encI r.parts).length = l2 at *
  go_enter Try.func33, Try.ntmps33
  go_wp2_with (first
    | (go_at_call 44; refine Calls.mono H44.out ?_; rintro _ w1 ⟨rfl, hb1⟩
       have HR1 := RecAt.belowB HR.out (hb1.mono hB)
       have d0 := HR1.c0
       have d4 := HR1.c4
       have d5 := HR1.c5
       have d6 := HR1.c6)
    | (go_at_call 45; refine Calls.mono (H45.out _ (by assumption)) ?_; rintro _ _ ⟨rfl, rfl⟩)
    | (go_at_call 43; refine Calls.mono (uvarintSize _ _ (by omega)) ?_; rintro _ _ ⟨rfl, rfl⟩))
  have HRb : Hid (∀ W, Below w.heap.size w W → RecAt W B rb 1 pv rdb rc wrb wc r) := fun W hW => RecAt.belowB HR.out (hW.mono hB)
  clear HR1 d0 d4 d5 d6
  generalize hl4 : (Lib.uvarint r.reads.length).length = l4 at *
  go_loopw [3, 106] (fun n x wr => ∃ k : Nat, k ≤ r.reads.length ∧ x = .int .i64 k ∧ n = .int .i64 (2 + l1 + l2 + (Lib.uvarint r.ticket).length + l4 + (cat encP (r.reads.take k)).length : Nat) ∧ Below w.heap.size w wr) (fun _ x _ => r.reads.length - (intOf x).toNat)
  case atStart => exact ⟨0, Nat.zero_le _, rfl, by rw [cat_zero, List.length_nil]; go_num, hb1⟩
  case round =>
    obtain ⟨k, hk, rfl, rfl, hb⟩ := hrel
    have HRr := HRb.out wr hb
    have hle := cat_le encP r.reads k
    by_cases hkl : k < r.reads.length
    · obtain ⟨g0, g1⟩ := HRr.reads k r.reads[k] (by simp [hkl])
      have hs := congrArg List.length (cat_succ encP r.reads k hkl)
      rw [List.length_append] at hs
      have hle2 := cat_le encP r.reads (k + 1)
      have hp : (encP r.reads[k]).length = ((Lib.uvarint r.reads[k].1.size).length + r.reads[k].1.size) + ((Lib.uvarint r.reads[k].2.size).length + r.reads[k].2.size) := by simp [encP, encS]; omega
      rw [hp] at hs
      generalize r.reads[k] = p at *
      obtain ⟨t, q⟩ := p
      simp only at *
      have H1 : ∀ W, Hid (Calls Try.prog 46 #[.int .i64 t.size] W fun e w' => e = .returned (.int .i64 ((Lib.uvarint t.size).length + t.size : Nat)) ∧ W = w') := fun W => stringSize t.size W (by omega)
      have H2 : ∀ W, Hid (Calls Try.prog 46 #[.int .i64 q.size] W fun e w' => e = .returned (.int .i64 ((Lib.uvarint q.size).length + q.size : Nat)) ∧ W = w') := fun W => stringSize q.size W (by omega)
      clear HRr hp
      generalize (cat encP (r.reads.take k)).length = m0 at *
      generalize hm1 : (cat encP (r.reads.take (k + 1))).length = m1 at *
      go_wp2
      go_quiet (first | (go_at_call 46; refine Calls.quiet_of_same (Calls.mono (H1 _).out fun e w' h => ⟨h.1, h.2.symm⟩)) | (go_at_call 46; refine Calls.quiet_of_same (Calls.mono (H2 _).out fun e w' h => ⟨h.1, h.2.symm⟩)))
      go_wp2
      exact ⟨⟨k + 1, by omega, by go_num, by rw [hm1]; go_num, below_alloc_drewN hb _ _⟩, by simp [intOf]; omega⟩
    · rw [cat_all encP r.reads k (by omega)] at *
      generalize (cat encP r.reads).length = m0 at *
      have f7 := HRr.c7
      have k10 := Lib.uvarint_length64 (x := r.writes.length) (by omega)
      clear HRr
      go_wp2_with (go_at_call 43; refine Calls.mono (uvarintSize _ _ (by omega)) ?_; rintro _ _ ⟨rfl, rfl⟩)
      clear f7
      generalize hl5 : (Lib.uvarint r.writes.length).length = l5 at *
      have hbw := hb
      clear hb
      go_loopw [3, 136] (fun n x wr => ∃ k : Nat, k ≤ r.writes.length ∧ x = .int .i64 k ∧ n = .int .i64 (2 + l1 + l2 + (Lib.uvarint r.ticket).length + l4 + m0 + l5 + (cat encQ (r.writes.take k)).length : Nat) ∧ Below w.heap.size w wr) (fun _ x _ => r.writes.length - (intOf x).toNat)
      case atStart => exact ⟨0, Nat.zero_le _, rfl, by rw [cat_zero, List.length_nil]; go_num, hbw⟩
      case round =>
        clear hbw
        obtain ⟨k, hk, rfl, rfl, hb⟩ := hrel
        have HRr := HRb.out _ hb
        have hle := cat_le encQ r.writes k
        by_cases hkl : k < r.writes.length
        · obtain ⟨g0, g1, v, g2, hv, _⟩ := HRr.writes k r.writes[k] (by simp [hkl])
          have hs := congrArg List.length (cat_succ encQ r.writes k hkl)
          rw [List.length_append] at hs
          have hle2 := cat_le encQ r.writes (k + 1)
          have hp : (encQ r.writes[k]).length = ((Lib.uvarint r.writes[k].1.size).length + r.writes[k].1.size) + ((Lib.uvarint r.writes[k].2.1.size).length + r.writes[k].2.1.size) + (encB r.writes[k].2.2).length := by simp [encQ, encS]; omega
          rw [hp] at hs
          generalize r.writes[k] = p at *
          obtain ⟨t, q, o⟩ := p
          simp only at *
          have hsh := hv.shape
          obtain ⟨sa, sn, sc, rfl⟩ : ∃ a n c, v = .slice a n c := by cases hsh <;> exact ⟨_, _, _, rfl⟩
          have H1 : ∀ W, Hid (Calls Try.prog 46 #[.int .i64 t.size] W fun e w' => e = .returned (.int .i64 ((Lib.uvarint t.size).length + t.size : Nat)) ∧ W = w') := fun W => stringSize t.size W (by omega)
          have H2 : ∀ W, Hid (Calls Try.prog 46 #[.int .i64 q.size] W fun e w' => e = .returned (.int .i64 ((Lib.uvarint q.size).length + q.size : Nat)) ∧ W = w') := fun W => stringSize q.size W (by omega)
          have H3 : ∀ W, Hid (Calls Try.prog 47 #[.slice sa sn sc] W fun e w' => e = .returned (.int .i64 ((encB o).length : Nat)) ∧ W = w') := fun W => bytesSizeS _ o W hsh (by omega)
          clear HRr hp hv hsh
          generalize (cat encQ (r.writes.take k)).length = m1 at *
          generalize hm2 : (cat encQ (r.writes.take (k + 1))).length = m2 at *
          generalize (encB o).length = m3 at *
          go_wp2
          go_quiet (first | (go_at_call 46; refine Calls.quiet_of_same (Calls.mono (H1 _).out fun e w' h => ⟨h.1, h.2.symm⟩)) | (go_at_call 46; refine Calls.quiet_of_same (Calls.mono (H2 _).out fun e w' h => ⟨h.1, h.2.symm⟩)) | (go_at_call 47; refine Calls.quiet_of_same (Calls.mono (H3 _).out fun e w' h => ⟨h.1, h.2.symm⟩)))
          go_wp2
          exact ⟨⟨k + 1, by omega, by go_num, by rw [hm2]; go_num, below_alloc_drewN hb _ _⟩, by simp [intOf]; omega⟩
        · rw [cat_all encQ r.writes k (by omega)] at *
          clear HRr
          go_wp2
          go_ret
          exact ⟨ret_int (by omega), hb⟩

set_option maxHeartbeats 1600000 in
set_option maxRecDepth 100000 in
theorem size_2 (B rb : Nat) (pv : Value) (rdb rc wrb wc : Nat) (r : RecD) (w : World) (h : RecAt w B rb 2 pv rdb rc wrb wc r) (ok : RecOk r) (hB : B ≤ w.heap.size) :
    Calls Try.prog 33 #[.pointer (some ⟨rb, 0, none⟩)] w fun e w' => e = .returned (.int .i64 (enc 2 r).length) ∧ Below w.heap.size w w' := by
  have HR : Hid (RecAt w B rb 2 pv rdb rc wrb wc r) := h
  have H44 : Hid (Calls Try.prog 44 #[.pointer (some ⟨rb, 1, none⟩)] w fun e w' => e = .returned (.int .i64 (encD r.site r.node r.idSeq).length) ∧ Below w.heap.size w w') := wireSize rb 1 r.site r.node r.idSeq w h.id (by have := ok.site; omega) ok.idSeq
  have H45 : Hid (∀ W, RecAt W B rb 2 pv rdb rc wrb wc r → Calls Try.prog 45 #[pv] W fun e w' => e = .returned (.int .i64 (encI r.parts).length) ∧ W = w') := fun W hW => indexesSize pv r.parts W hW.parts (by have := ok.parts; omega) (by have := ok.partsL; omega)
  have c0 := h.c0
  have k1 := ok.ticket
  have k2 := ok.readsL
  have k3 := ok.writesL
  have k4 := ok.reads
  have k5 := ok.writes
  have k6 := ok.parts
  have k7 : (encD r.site r.node r.idSeq).length ≤ 1048676 := by
    have e1 : (encD r.site r.node r.idSeq).length = ((Lib.uvarint r.site.size).length + r.site.size) + (Lib.uvarint (u64 r.node)).length + (Lib.uvarint r.idSeq).length := by simp [encD, encS]; omega
    have a1 := Lib.uvarint_length64 (x := r.site.size) (by have := ok.site; omega)
    have a2 := Lib.uvarint_length64 (x := u64 r.node) (by have := u64_lt r.node; omega)
    have a3 := Lib.uvarint_length64 (x := r.idSeq) (by have := ok.idSeq; omega)
    have a4 := ok.site
    omega
  have k8 := Lib.uvarint_length64 (x := r.ticket) (by omega)
  have k9 := Lib.uvarint_length64 (x := r.reads.length) (by omega)
  have e1 : (encR r.reads).length = (Lib.uvarint r.reads.length).length + (cat encP r.reads).length := by simp [encR]
  have e2 : (encW r.writes).length = (Lib.uvarint r.writes.length).length + (cat encQ r.writes).length := by simp [encW]
  have e3 : (enc 2 r).length = 2 + (encD r.site r.node r.idSeq).length + (encI r.parts).length + (encR r.reads).length + (encW r.writes).length := by simp [enc, encTail]; omega
  rw [e3]
  clear h e3
  generalize (encD r.site r.node r.idSeq).length = l1 at *
  generalize (encI r.parts).length = l2 at *
  go_enter Try.func33, Try.ntmps33
  go_wp2_with (first
    | (go_at_call 44; refine Calls.mono H44.out ?_; rintro _ w1 ⟨rfl, hb1⟩
       have HR1 := RecAt.belowB HR.out (hb1.mono hB)
       have d0 := HR1.c0
       have d4 := HR1.c4
       have d5 := HR1.c5
       have d6 := HR1.c6)
    | (go_at_call 45; refine Calls.mono (H45.out _ (by assumption)) ?_; rintro _ _ ⟨rfl, rfl⟩)
    | (go_at_call 43; refine Calls.mono (uvarintSize _ _ (by omega)) ?_; rintro _ _ ⟨rfl, rfl⟩))
  have HRb : Hid (∀ W, Below w.heap.size w W → RecAt W B rb 2 pv rdb rc wrb wc r) := fun W hW => RecAt.belowB HR.out (hW.mono hB)
  clear HR1 d0 d4 d5 d6
  generalize hl4 : (Lib.uvarint r.reads.length).length = l4 at *
  go_loopw [3, 106] (fun n x wr => ∃ k : Nat, k ≤ r.reads.length ∧ x = .int .i64 k ∧ n = .int .i64 (2 + l1 + l2 + l4 + (cat encP (r.reads.take k)).length : Nat) ∧ Below w.heap.size w wr) (fun _ x _ => r.reads.length - (intOf x).toNat)
  case atStart => exact ⟨0, Nat.zero_le _, rfl, by rw [cat_zero, List.length_nil]; go_num, hb1⟩
  case round =>
    obtain ⟨k, hk, rfl, rfl, hb⟩ := hrel
    have HRr := HRb.out wr hb
    have hle := cat_le encP r.reads k
    by_cases hkl : k < r.reads.length
    · obtain ⟨g0, g1⟩ := HRr.reads k r.reads[k] (by simp [hkl])
      have hs := congrArg List.length (cat_succ encP r.reads k hkl)
      rw [List.length_append] at hs
      have hle2 := cat_le encP r.reads (k + 1)
      have hp : (encP r.reads[k]).length = ((Lib.uvarint r.reads[k].1.size).length + r.reads[k].1.size) + ((Lib.uvarint r.reads[k].2.size).length + r.reads[k].2.size) := by simp [encP, encS]; omega
      rw [hp] at hs
      generalize r.reads[k] = p at *
      obtain ⟨t, q⟩ := p
      simp only at *
      have H1 : ∀ W, Hid (Calls Try.prog 46 #[.int .i64 t.size] W fun e w' => e = .returned (.int .i64 ((Lib.uvarint t.size).length + t.size : Nat)) ∧ W = w') := fun W => stringSize t.size W (by omega)
      have H2 : ∀ W, Hid (Calls Try.prog 46 #[.int .i64 q.size] W fun e w' => e = .returned (.int .i64 ((Lib.uvarint q.size).length + q.size : Nat)) ∧ W = w') := fun W => stringSize q.size W (by omega)
      clear HRr hp
      generalize (cat encP (r.reads.take k)).length = m0 at *
      generalize hm1 : (cat encP (r.reads.take (k + 1))).length = m1 at *
      go_wp2
      go_quiet (first | (go_at_call 46; refine Calls.quiet_of_same (Calls.mono (H1 _).out fun e w' h => ⟨h.1, h.2.symm⟩)) | (go_at_call 46; refine Calls.quiet_of_same (Calls.mono (H2 _).out fun e w' h => ⟨h.1, h.2.symm⟩)))
      go_wp2
      exact ⟨⟨k + 1, by omega, by go_num, by rw [hm1]; go_num, below_alloc_drewN hb _ _⟩, by simp [intOf]; omega⟩
    · rw [cat_all encP r.reads k (by omega)] at *
      generalize (cat encP r.reads).length = m0 at *
      have f7 := HRr.c7
      have k10 := Lib.uvarint_length64 (x := r.writes.length) (by omega)
      clear HRr
      go_wp2_with (go_at_call 43; refine Calls.mono (uvarintSize _ _ (by omega)) ?_; rintro _ _ ⟨rfl, rfl⟩)
      clear f7
      generalize hl5 : (Lib.uvarint r.writes.length).length = l5 at *
      have hbw := hb
      clear hb
      go_loopw [3, 136] (fun n x wr => ∃ k : Nat, k ≤ r.writes.length ∧ x = .int .i64 k ∧ n = .int .i64 (2 + l1 + l2 + l4 + m0 + l5 + (cat encQ (r.writes.take k)).length : Nat) ∧ Below w.heap.size w wr) (fun _ x _ => r.writes.length - (intOf x).toNat)
      case atStart => exact ⟨0, Nat.zero_le _, rfl, by rw [cat_zero, List.length_nil]; go_num, hbw⟩
      case round =>
        clear hbw
        obtain ⟨k, hk, rfl, rfl, hb⟩ := hrel
        have HRr := HRb.out _ hb
        have hle := cat_le encQ r.writes k
        by_cases hkl : k < r.writes.length
        · obtain ⟨g0, g1, v, g2, hv, _⟩ := HRr.writes k r.writes[k] (by simp [hkl])
          have hs := congrArg List.length (cat_succ encQ r.writes k hkl)
          rw [List.length_append] at hs
          have hle2 := cat_le encQ r.writes (k + 1)
          have hp : (encQ r.writes[k]).length = ((Lib.uvarint r.writes[k].1.size).length + r.writes[k].1.size) + ((Lib.uvarint r.writes[k].2.1.size).length + r.writes[k].2.1.size) + (encB r.writes[k].2.2).length := by simp [encQ, encS]; omega
          rw [hp] at hs
          generalize r.writes[k] = p at *
          obtain ⟨t, q, o⟩ := p
          simp only at *
          have hsh := hv.shape
          obtain ⟨sa, sn, sc, rfl⟩ : ∃ a n c, v = .slice a n c := by cases hsh <;> exact ⟨_, _, _, rfl⟩
          have H1 : ∀ W, Hid (Calls Try.prog 46 #[.int .i64 t.size] W fun e w' => e = .returned (.int .i64 ((Lib.uvarint t.size).length + t.size : Nat)) ∧ W = w') := fun W => stringSize t.size W (by omega)
          have H2 : ∀ W, Hid (Calls Try.prog 46 #[.int .i64 q.size] W fun e w' => e = .returned (.int .i64 ((Lib.uvarint q.size).length + q.size : Nat)) ∧ W = w') := fun W => stringSize q.size W (by omega)
          have H3 : ∀ W, Hid (Calls Try.prog 47 #[.slice sa sn sc] W fun e w' => e = .returned (.int .i64 ((encB o).length : Nat)) ∧ W = w') := fun W => bytesSizeS _ o W hsh (by omega)
          clear HRr hp hv hsh
          generalize (cat encQ (r.writes.take k)).length = m1 at *
          generalize hm2 : (cat encQ (r.writes.take (k + 1))).length = m2 at *
          generalize (encB o).length = m3 at *
          go_wp2
          go_quiet (first | (go_at_call 46; refine Calls.quiet_of_same (Calls.mono (H1 _).out fun e w' h => ⟨h.1, h.2.symm⟩)) | (go_at_call 46; refine Calls.quiet_of_same (Calls.mono (H2 _).out fun e w' h => ⟨h.1, h.2.symm⟩)) | (go_at_call 47; refine Calls.quiet_of_same (Calls.mono (H3 _).out fun e w' h => ⟨h.1, h.2.symm⟩)))
          go_wp2
          exact ⟨⟨k + 1, by omega, by go_num, by rw [hm2]; go_num, below_alloc_drewN hb _ _⟩, by simp [intOf]; omega⟩
        · rw [cat_all encQ r.writes k (by omega)] at *
          clear HRr
          go_wp2
          go_ret
          exact ⟨ret_int (by omega), hb⟩

end Go.Proofs.Qxb6605845a.Ec
