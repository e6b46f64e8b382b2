import Derived.Test.Qxb6605845aS1
import Derived.Laws.Cover3
import Derived.OwnWalk
namespace Go.Proofs.Qxb6605845a.Ec
set_option linter.unusedVariables false
set_option linter.unusedSimpArgs false
open Go.RowKit

/-! ### the plain encoding -/
/-- uint64(z). -/
def u64 (z : Int) : Nat := (z % 18446744073709551616).toNat
theorem u64_lt (z : Int) : u64 z < 2 ^ 64 := by unfold u64; omega
theorem u64_cast (z : Int) : ((u64 z : Nat) : Int) = z % 18446744073709551616 := by unfold u64; omega
theorem u64_nat {n : Nat} (h : n < 2 ^ 64) : u64 (n : Int) = n := by unfold u64; omega

def uz (z : Int) : List UInt8 := Lib.uvarint (u64 z)
def cat {α} (f : α → List UInt8) (L : List α) : List UInt8 := L.flatMap f
def encS (s : ByteArray) : List UInt8 := Lib.uvarint s.size ++ s.data.toList
def encB : Option (List UInt8) → List UInt8
  | none => [0]
  | some l => 1 :: (Lib.uvarint l.length ++ l)
def encI (L : List Int) : List UInt8 := Lib.uvarint L.length ++ cat uz L
def encD (site : ByteArray) (node : Int) (seq : Nat) : List UInt8 := encS site ++ Lib.uvarint (u64 node) ++ Lib.uvarint seq
def encP (p : ByteArray × ByteArray) : List UInt8 := encS p.1 ++ encS p.2
def encR (L : List (ByteArray × ByteArray)) : List UInt8 := Lib.uvarint L.length ++ cat encP L
def encQ (p : ByteArray × ByteArray × Option (List UInt8)) : List UInt8 := encS p.1 ++ encS p.2.1 ++ encB p.2.2
def encW (L : List (ByteArray × ByteArray × Option (List UInt8))) : List UInt8 := Lib.uvarint L.length ++ cat encQ L

theorem encS_len (s : ByteArray) : (encS s).length = (Lib.uvarint s.size).length + s.size := by simp [encS]

theorem cat_succ {α} (f : α → List UInt8) (L : List α) (k : Nat) (h : k < L.length) : cat f (L.take (k + 1)) = cat f (L.take k) ++ f L[k] := by
  unfold cat
  rw [List.take_succ_eq_append_getElem h, List.flatMap_append]; simp

theorem cat_le {α} (f : α → List UInt8) (L : List α) (k : Nat) : (cat f (L.take k)).length ≤ (cat f L).length := by
  unfold cat
  conv => rhs; rw [← List.take_append_drop k L, List.flatMap_append]
  rw [List.length_append]
  exact Nat.le_add_right _ _

theorem cat_all {α} (f : α → List UInt8) (L : List α) (k : Nat) (h : L.length ≤ k) : cat f (L.take k) = cat f L := by rw [List.take_of_length_le h]
theorem cat_nil {α} (f : α → List UInt8) : cat f [] = [] := rfl
theorem cat_zero {α} (f : α → List UInt8) (L : List α) : cat f (L.take 0) = [] := by simp [cat_nil]
theorem cat_cons {α} (f : α → List UInt8) (x : α) (L : List α) : cat f (x :: L) = f x ++ cat f L := by simp [cat]

/-! ### values in memory -/
/-- The ints L lie in block b, from cell o on. -/
def IntsAt (w : World) (b o : Nat) (L : List Int) : Prop := ∀ j z, L[j]? = some z → w.cell? ⟨b, o + j, none⟩ = some (.int .i64 z)
def StrsAt (w : World) (b o : Nat) (L : List ByteArray) : Prop := ∀ j s, L[j]? = some s → w.cell? ⟨b, o + j, none⟩ = some (.string s)
def BytesAt (w : World) (b o : Nat) (L : List UInt8) : Prop := ∀ j x, L[j]? = some x → w.cell? ⟨b, o + j, none⟩ = some (.int .u8 x.toNat)

theorem IntsAt.below {w w' : World} {b o : Nat} {L : List Int} (h : IntsAt w b o L) (hb : Below w.heap.size w w') : IntsAt w' b o L := by
  intro j z hz
  have := h j z hz
  rw [hb.cell (World.block_lt_of_cell? w _ this)]; exact this
theorem StrsAt.below {w w' : World} {b o : Nat} {L : List ByteArray} (h : StrsAt w b o L) (hb : Below w.heap.size w w') : StrsAt w' b o L := by
  intro j z hz
  have := h j z hz
  rw [hb.cell (World.block_lt_of_cell? w _ this)]; exact this
theorem BytesAt.below {w w' : World} {b o : Nat} {L : List UInt8} (h : BytesAt w b o L) (hb : Below w.heap.size w w') : BytesAt w' b o L := by
  intro j z hz
  have := h j z hz
  rw [hb.cell (World.block_lt_of_cell? w _ this)]; exact this

/-- A slice of ints (nil or a row from cell 0 of a block). -/
inductive IVal (w : World) : Value → List Int → Prop
  | nil : IVal w (.slice none 0 0) []
  | row (b : Nat) (L : List Int) (c : Nat) (h : IntsAt w b 0 L) : IVal w (.slice (some ⟨b, 0, none⟩) L.length c) L
inductive SVal (w : World) : Value → List ByteArray → Prop
  | nil : SVal w (.slice none 0 0) []
  | row (b : Nat) (L : List ByteArray) (c : Nat) (h : StrsAt w b 0 L) : SVal w (.slice (some ⟨b, 0, none⟩) L.length c) L
inductive BVal (w : World) : Value → Option (List UInt8) → Prop
  | nil : BVal w (.slice none 0 0) none
  | row (b : Nat) (L : List UInt8) (c : Nat) (h : BytesAt w b 0 L) : BVal w (.slice (some ⟨b, 0, none⟩) L.length c) (some L)

theorem eql_nil {t e : TypeId} (h : Try.prog.underlying t = some (.slice e)) (a : Option Addr) (n c : Nat) (w : World) : (binOp .eql t (.slice a n c) (.slice none 0 0)).run Try.prog w = .ok (.bool a.isNone) w := by
  simp [binOp, run_equal_slice_nil w t e a n c h, Result.andThen]

theorem eql_nil_some {t e : TypeId} (h : Try.prog.underlying t = some (.slice e)) (a : Addr) (n c : Nat) (w : World) : (binOp .eql t (.slice (some a) n c) (.slice none 0 0)).run Try.prog w = .ok (.bool false) w := eql_nil h (some a) n c w
theorem eql_nil_none {t e : TypeId} (h : Try.prog.underlying t = some (.slice e)) (w : World) : (binOp .eql t (.slice none 0 0) (.slice none 0 0)).run Try.prog w = .ok (.bool true) w := eql_nil h none 0 0 w

/-! ### the sizes -/
set_option maxHeartbeats 400000 in
theorem stringSize (n : Nat) (w : World) (hn : n < 2 ^ 48) :
    Calls Try.prog 46 #[.int .i64 n] w fun e w' => e = .returned (.int .i64 ((Lib.uvarint n).length + n : Nat)) ∧ w = w' := by
  have hl := Lib.uvarint_length64 (x := n) (by omega)
  go_enter Try.func46, Try.ntmps46
  go_wp2_with (go_at_call 43; refine (uvarintSize n w (by omega)).mono ?_; rintro _ _ ⟨rfl, rfl⟩)
  go_ret
  exact ⟨ret_int (by omega), rfl⟩

set_option maxHeartbeats 400000 in
theorem bytesSize (v : Value) (o : Option (List UInt8)) (w : World) (hv : BVal w v o) (hn : (encB o).length < 2 ^ 48) :
    Calls Try.prog 47 #[v] w fun e w' => e = .returned (.int .i64 (encB o).length) ∧ w = w' := by
  cases hv with
  | nil =>
    have hnil := fun (W : World) => eql_nil_none Try.underlying33 W
    go_enter Try.func47, Try.ntmps47
    go_wp2
    go_ret
    exact ⟨ret_int (by simp [encB]), rfl⟩
  | row b L c h =>
    have hnil := fun (W : World) => eql_nil_some Try.underlying33 ⟨b, 0, none⟩ L.length c W
    simp [encB] at hn
    have e1 : ((encB (some L)).length : Int) = 1 + ((Lib.uvarint L.length).length + L.length : Nat) := by simp [encB]; omega
    rw [e1]
    generalize hm : (Lib.uvarint L.length).length + L.length = m at *
    go_enter Try.func47, Try.ntmps47
    go_wp2_with (go_at_call 46; refine (stringSize L.length w (by omega)).mono ?_; rintro _ _ ⟨rfl, rfl⟩)
    go_ret
    exact ⟨ret_int (by omega), rfl⟩

theorem wrap_u64 (z : Int) : IntKind.u64.wrap z = ((u64 z : Nat) : Int) := by rw [u64_cast, IntKind.wrap_u64]
theorem uvarintSizeZ (z : Int) (w : World) : Calls Try.prog 43 #[.int .u64 (IntKind.u64.wrap z)] w fun e w' => e = .returned (.int .i64 (Lib.uvarint (u64 z)).length) ∧ w = w' := by
  rw [wrap_u64]; exact uvarintSize _ w (u64_lt z)

set_option maxHeartbeats 400000 in
theorem indexesSize_row (L : List Int) (b c : Nat) (w : World) (h : IntsAt w b 0 L) (hn : (encI L).length < 2 ^ 48) (hl : L.length < 2 ^ 48) :
    Calls Try.prog 45 #[.slice (some ⟨b, 0, none⟩) L.length c] w fun e w' => e = .returned (.int .i64 (encI L).length) ∧ w = w' := by
  have e1 : (encI L).length = (Lib.uvarint L.length).length + (cat uz L).length := by simp [encI]
  rw [e1] at hn ⊢
  go_enter Try.func45, Try.ntmps45
  go_wp2_with (go_at_call 43; refine (uvarintSize L.length w (by omega)).mono ?_; rintro _ _ ⟨rfl, rfl⟩)
  go_loop [3, 12] (fun n x => ∃ k : Nat, k ≤ L.length ∧ x = .int .i64 k ∧ n = .int .i64 ((Lib.uvarint L.length).length + (cat uz (L.take k)).length : Nat)) (fun _ x => L.length - (intOf x).toNat)
  case atStart => exact ⟨0, Nat.zero_le _, rfl, by rw [cat_zero]; simp⟩
  case round =>
    obtain ⟨k, hk, rfl, rfl⟩ := hrel
    by_cases hkl : k < L.length
    · have c0 := h k L[k] (by simp [hkl])
      simp only [Nat.zero_add] at c0
      have hf := cat_succ uz L k hkl
      have hle := cat_le uz L (k + 1)
      have hfl := congrArg List.length hf
      rw [List.length_append] at hfl
      simp only [uz] at hfl
      have hc := u64_cast L[k]
      have hlt := u64_lt L[k]
      generalize hm : (cat uz (L.take (k + 1))).length = m1 at *
      generalize hm0 : (cat uz (L.take k)).length = m0 at *
      generalize L[k] = z at *
      go_wp2_with (go_at_call 43; refine (uvarintSizeZ z w).mono ?_; rintro _ _ ⟨rfl, rfl⟩)
      exact ⟨⟨k + 1, by omega, by go_num, by rw [hm]; go_num⟩, by simp [intOf]; omega⟩
    · go_wp2
      go_ret
      rw [cat_all _ L k (by omega)]
      exact ⟨rfl, rfl⟩

set_option maxHeartbeats 400000 in
theorem indexesSize_nil (w : World) :
    Calls Try.prog 45 #[.slice none 0 0] w fun e w' => e = .returned (.int .i64 (encI []).length) ∧ w = w' := by
  have e1 : (encI []).length = (Lib.uvarint 0).length := by simp [encI, cat]
  rw [e1]
  go_enter Try.func45, Try.ntmps45
  go_wp2_with (go_at_call 43; refine (uvarintSize 0 w (by omega)).mono ?_; rintro _ _ ⟨rfl, rfl⟩)
  refine wp_loop_rounds 1 ?_
  rw [rounds_succ]
  go_wp2
  go_ret
  exact ⟨rfl, rfl⟩

theorem indexesSize (v : Value) (L : List Int) (w : World) (hv : IVal w v L) (hn : (encI L).length < 2 ^ 48) (hl : L.length < 2 ^ 48) :
    Calls Try.prog 45 #[v] w fun e w' => e = .returned (.int .i64 (encI L).length) ∧ w = w' := by
  cases hv with
  | nil => exact indexesSize_nil w
  | row b L c h => exact indexesSize_row L b c w h hn hl

/-- An ID lies at block b from cell o on. -/
structure IdAt (w : World) (b o : Nat) (site : ByteArray) (node : Int) (seq : Nat) : Prop where
  c0 : w.cell? ⟨b, o, none⟩ = some (.string site)
  c1 : w.cell? ⟨b, o + 1, none⟩ = some (.int .i64 node)
  c2 : w.cell? ⟨b, o + 2, none⟩ = some (.int .u64 seq)

set_option maxHeartbeats 800000 in
theorem wireSize (b o : Nat) (site : ByteArray) (node : Int) (seq : Nat) (w : World) (h : IdAt w b o site node seq) (hs : site.size < 2 ^ 47) (hq : seq < 2 ^ 64) :
    Calls Try.prog 44 #[.pointer (some ⟨b, o, none⟩)] w fun e w' => e = .returned (.int .i64 (encD site node seq).length) ∧ Below w.heap.size w w' := by
  have e1 : (encD site node seq).length = ((Lib.uvarint site.size).length + site.size) + (Lib.uvarint (u64 node)).length + (Lib.uvarint seq).length := by simp [encD, encS]; omega
  rw [e1]
  obtain ⟨c0, c1, c2⟩ := h
  have hc := u64_cast node
  have hlt := u64_lt node
  have l1 := Lib.uvarint_length64 (x := site.size) (by omega)
  have l2 := Lib.uvarint_length64 (x := u64 node) (by omega)
  have l3 := Lib.uvarint_length64 (x := seq) (by omega)
  have H0 : ∀ W, Hid (Calls Try.prog 46 #[.int .i64 site.size] W fun e w' => e = .returned (.int .i64 ((Lib.uvarint site.size).length + site.size : Nat)) ∧ W = w') := fun W => stringSize site.size W (by omega)
  have H1 : ∀ W, Hid (Calls Try.prog 43 #[.int .u64 (IntKind.u64.wrap node)] W fun e w' => e = .returned (.int .i64 (Lib.uvarint (u64 node)).length) ∧ W = w') := fun W => uvarintSizeZ node W
  have H2 : ∀ W, Hid (Calls Try.prog 43 #[.int .u64 seq] W fun e w' => e = .returned (.int .i64 (Lib.uvarint seq).length) ∧ W = w') := fun W => uvarintSize _ W (by omega)
  go_enter Try.func44, Try.ntmps44
  go_wp2
  go_quiet (first | (go_at_call 46; refine Calls.quiet_of_same (Calls.mono (H0 _).out fun e w' h => ⟨h.1, h.2.symm⟩)) | (go_at_call 43; refine Calls.quiet_of_same (Calls.mono (H1 _).out fun e w' h => ⟨h.1, h.2.symm⟩)) | (go_at_call 43; refine Calls.quiet_of_same (Calls.mono (H2 _).out fun e w' h => ⟨h.1, h.2.symm⟩)))
  go_wp2
  go_ret
  exact ⟨ret_int (by omega), ⟨rfl, rfl, rfl, Nat.le_refl _, fun _ _ => rfl⟩⟩
end Go.Proofs.Qxb6605845a.Ec
