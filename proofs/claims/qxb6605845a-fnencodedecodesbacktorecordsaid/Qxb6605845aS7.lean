import Derived.Test.Qxb6605845aS6
namespace Go.Proofs.Qxb6605845a.Ec
set_option linter.unusedVariables false
set_option linter.unusedSimpArgs false
open Go.RowKit

theorem ret_pairI {a b : Int} {u : Value} (h : a = b) : Ending.returned (Value.tuple #[.int .i64 a, u]) = Ending.returned (Value.tuple #[.int .i64 b, u]) := by rw [h]

theorem drop_app {bs pre post : List UInt8} {m : Nat} (h : bs.drop m = pre ++ post) : bs.drop (m + pre.length) = post ∧ (pre ≠ [] → m + pre.length + post.length = bs.length) := by
  have h1 : bs.drop (m + pre.length) = post := by
    rw [← List.drop_drop, h]
    simp
  refine ⟨h1, fun hne => ?_⟩
  have hl := congrArg List.length h
  rw [List.length_drop, List.length_append] at hl
  have : 0 < pre.length := List.length_pos_iff.2 hne
  omega

theorem drop_at {bs l post : List UInt8} {q : Nat} (h : bs.drop q = l ++ post) (i : Nat) (hi : i < l.length) : bs[q + i]? = some l[i] := by
  rw [← List.getElem?_drop, h, List.getElem?_append_left hi]
  simp [hi]

set_option maxHeartbeats 800000 in
set_option maxRecDepth 100000 in
theorem zzstring (s : ByteArray) (m b c : Nat) (bs post : List UInt8) (w : World) (h : BytesAt w b 0 bs) (hd0 : bs.drop m = encS s ++ post) (hl : bs.length < 140737488355328) :
    Calls Try.prog 26 #[.slice (some ⟨b, 0, none⟩) bs.length c, .int .i64 m, .string s] w fun e w' => e = .returned (.tuple #[.int .i64 (m + (encS s).length : Nat), .bool true]) ∧ Below w.heap.size w w' := by
  have hd : bs.drop m = Lib.uvarint s.size ++ (s.data.toList ++ post) := by rw [hd0]; simp [encS]
  obtain ⟨hd1, hle⟩ := drop_app hd
  have hpos := Lib.uvarint_pos s.size
  have hle := hle (by intro e; rw [e] at hpos; simp at hpos)
  have hsl : s.data.toList.length = s.size := rfl
  rw [List.length_append, hsl] at hle
  have hel := encS_len s
  have H25 : ∀ W, Hid (BytesAt W b 0 bs → Calls Try.prog 25 #[.slice (some ⟨b, 0, none⟩) bs.length c, .int .i64 m] W fun e w' => e = .returned (.tuple #[.int .u64 s.size, .int .i64 (m + (Lib.uvarint s.size).length : Nat), .bool true]) ∧ W = w') := fun W hW => zzuvarint s.size m b c bs _ W hW hd (by omega) hl
  have HB : Hid (BytesAt w b 0 bs) := h
  have HD : Hid (bs.drop (m + (Lib.uvarint s.size).length) = s.data.toList ++ post) := hd1
  clear h hd0 hd hd1
  generalize hq : m + (Lib.uvarint s.size).length = q at *
  generalize hlen : bs.length = nb at *
  go_enter Try.func26, Try.ntmps26
  go_wp2_with (go_at_call 25; refine Calls.mono ((H25 _).out HB.out) ?_; rintro _ _ ⟨rfl, rfl⟩)
  go_loopw [11] (fun x wr => ∃ k : Nat, k ≤ s.size ∧ x = .int .i64 k ∧ Below w.heap.size w wr) (fun x _ => s.size - (intOf x).toNat)
  case atStart => exact ⟨0, Nat.zero_le _, rfl, Below.refl _ _⟩
  case round =>
    obtain ⟨k, hk, rfl, hb⟩ := hrel
    by_cases hkl : k < s.size
    · have hat : bs[q + k]? = some (s[k]'hkl) := by
        have := drop_at HD.out k hkl
        rw [this]
        simp only [Array.getElem_toList]
        rfl
      have hc : wr.cell? ⟨b, q + k, none⟩ = some (.int .u8 (s[k]'hkl).toNat) := by
        have := (BytesAt.below HB.out hb) _ _ hat
        simpa using this
      go_wp2
      go_quiet (fail)
      go_wp2
      have hbq : Below w.heap.size w (wr.drewN nq) := hb.trans ⟨rfl, rfl, rfl, Nat.le_refl _, fun _ _ => rfl⟩
      exact ⟨⟨k + 1, by omega, by go_num, hbq⟩, by simp [intOf]; omega⟩
    · go_wp2
      go_ret2
      exact ⟨ret_pairI (by omega), hb⟩

set_option maxHeartbeats 800000 in
set_option maxRecDepth 100000 in
theorem zzbytes_nil (m b c : Nat) (bs post : List UInt8) (w : World) (h : BytesAt w b 0 bs) (hd0 : bs.drop m = encB none ++ post) (hl : bs.length < 140737488355328) :
    Calls Try.prog 27 #[.slice (some ⟨b, 0, none⟩) bs.length c, .int .i64 m, .slice none 0 0] w fun e w' => e = .returned (.tuple #[.int .i64 (m + (encB none).length : Nat), .bool true]) ∧ Below w.heap.size w w' := by
  have hnil := fun (W : World) => eql_nil_none Try.underlying33 W
  obtain ⟨h1, h2, h3⟩ := drop_head (bs := bs) (m := m) (c := 0) (rest := post) hd0
  have hc := h _ _ h1
  simp only [Nat.zero_add] at hc
  have hc' : w.cell? ⟨b, m, none⟩ = some (.int .u8 0) := hc
  have e1 : (encB none).length = 1 := rfl
  rw [e1]
  clear hd0 h h1 h2 hc
  go_enter Try.func27, Try.ntmps27
  go_wp2
  go_ret2
  exact ⟨ret_pairI (by omega), Below.refl _ _⟩

set_option maxHeartbeats 1600000 in
set_option maxRecDepth 100000 in
theorem zzbytes_row (m b c vb vc : Nat) (L bs post : List UInt8) (w : World) (h : BytesAt w b 0 bs) (hL : BytesAt w vb 0 L) (hd0 : bs.drop m = encB (some L) ++ post) (hl : bs.length < 140737488355328) :
    Calls Try.prog 27 #[.slice (some ⟨b, 0, none⟩) bs.length c, .int .i64 m, .slice (some ⟨vb, 0, none⟩) L.length vc] w fun e w' => e = .returned (.tuple #[.int .i64 (m + (encB (some L)).length : Nat), .bool true]) ∧ Below w.heap.size w w' := by
  have hnil := fun (W : World) => eql_nil_some Try.underlying33 ⟨vb, 0, none⟩ L.length vc W
  obtain ⟨h1, h2, h3⟩ := drop_head (bs := bs) (m := m) (c := 1) (rest := Lib.uvarint L.length ++ L ++ post) (by rw [hd0]; simp [encB])
  have hc := h _ _ h1
  simp only [Nat.zero_add] at hc
  have hc' : w.cell? ⟨b, m, none⟩ = some (.int .u8 1) := hc
  rw [List.append_assoc] at h2
  obtain ⟨hd1, hle⟩ := drop_app h2
  have hpos := Lib.uvarint_pos L.length
  have hle := hle (by intro e; rw [e] at hpos; simp at hpos)
  rw [List.length_append] at hle
  have hel : (encB (some L)).length = 1 + (Lib.uvarint L.length).length + L.length := by simp [encB]; omega
  have hLlt : L.length < 18446744073709551616 := by omega
  have H25 : ∀ W, Hid (BytesAt W b 0 bs → Calls Try.prog 25 #[.slice (some ⟨b, 0, none⟩) bs.length c, .int .i64 (m + 1 : Nat)] W fun e w' => e = .returned (.tuple #[.int .u64 L.length, .int .i64 (m + 1 + (Lib.uvarint L.length).length : Nat), .bool true]) ∧ W = w') := fun W hW => zzuvarint L.length (m + 1) b c bs _ W hW h2 hLlt hl
  simp only [Int.natCast_add, Int.cast_ofNat_Int] at H25
  have HB : Hid (BytesAt w b 0 bs) := h
  have HL : Hid (BytesAt w vb 0 L) := hL
  have HD : Hid (bs.drop (m + 1 + (Lib.uvarint L.length).length) = L ++ post) := hd1
  rw [hel]
  clear h hd0 h2 hd1 hc h1 hL
  generalize hlen : bs.length = nb at *
  generalize hq : (Lib.uvarint L.length).length = ul at *
  go_enter Try.func27, Try.ntmps27
  go_wp2_with (go_at_call 25; refine Calls.mono ((H25 _).out HB.out) ?_; rintro _ _ ⟨rfl, rfl⟩)
  go_loopw [12] (fun x wr => ∃ k : Nat, k ≤ L.length ∧ x = .int .i64 k ∧ Below w.heap.size w wr) (fun x _ => L.length - (intOf x).toNat)
  case atStart => exact ⟨0, Nat.zero_le _, rfl, Below.refl _ _⟩
  case round =>
    obtain ⟨k, hk, rfl, hb⟩ := hrel
    by_cases hkl : k < L.length
    · have hat := drop_at HD.out k hkl
      have hc : wr.cell? ⟨b, m + 1 + ul + k, none⟩ = some (.int .u8 (L[k]).toNat) := by
        have := (BytesAt.below HB.out hb) _ _ hat
        simpa using this
      have hc2 : wr.cell? ⟨vb, k, none⟩ = some (.int .u8 (L[k]).toNat) := by
        have := (BytesAt.below HL.out hb) k L[k] (by simp [hkl])
        simpa using this
      clear hat
      generalize L[k] = z at *
      go_wp2
      go_quiet (fail)
      go_wp2
      have hbq : Below w.heap.size w (wr.drewN nq) := hb.trans ⟨rfl, rfl, rfl, Nat.le_refl _, fun _ _ => rfl⟩
      exact ⟨⟨k + 1, by omega, by go_num, hbq⟩, by simp [intOf]; omega⟩
    · go_wp2
      go_ret2
      exact ⟨ret_pairI (by omega), hb⟩

theorem zzbytes (m b c : Nat) (v : Value) (o : Option (List UInt8)) (bs post : List UInt8) (w : World) (h : BytesAt w b 0 bs) (hv : BVal w v o) (hd0 : bs.drop m = encB o ++ post) (hl : bs.length < 140737488355328) :
    Calls Try.prog 27 #[.slice (some ⟨b, 0, none⟩) bs.length c, .int .i64 m, v] w fun e w' => e = .returned (.tuple #[.int .i64 (m + (encB o).length : Nat), .bool true]) ∧ Below w.heap.size w w' := by
  cases hv with
  | nil => exact zzbytes_nil m b c bs post w h hd0 hl
  | row vb L vc hL => exact zzbytes_row m b c vb vc L bs post w h hL hd0 hl
end Go.Proofs.Qxb6605845a.Ec
