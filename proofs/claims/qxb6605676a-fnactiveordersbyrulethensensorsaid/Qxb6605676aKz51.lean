import Derived.Test.Qxb6605676aKz27
import Derived.Lib.Bytealg
import Derived.BigQuiet
import Derived.Test.Qxb6605676aKz14
namespace Go.Proofs.Qxb6605676a.Kz
set_option linter.unusedVariables false
set_option linter.unusedSimpArgs false
open Go.RowKit Go.Lib

theorem cb_take : ∀ (k : Nat) (a b : List UInt8), a.take k = b.take k → k ≤ a.length → k ≤ b.length → compareBytes a b = compareBytes (a.drop k) (b.drop k)
  | 0, a, b, _, _, _ => rfl
  | k + 1, [], b, _, h, _ => by simp at h
  | k + 1, _ :: _, [], _, _, h => by simp at h
  | k + 1, x :: a, y :: b, h, h1, h2 => by
    simp only [List.take_succ_cons, List.cons.injEq] at h
    obtain ⟨rfl, h⟩ := h
    simp only [List.drop_succ_cons]
    rw [← cb_take k a b h (by simpa using h1) (by simpa using h2)]
    conv => lhs; unfold compareBytes
    simp

theorem idx9 (a : ByteArray) (k : Nat) (h : k < a.size) (w : World) : (Instr.index 9 (.string a) (.int .i64 k)).run Try.prog w = .ok (.int .u8 ((a.data.toList[k]'(by simpa using h)).toNat : Nat)) w := by
  rw [run_index_string (t := 9) (s := a) (k := .i64) (i := k) (h := Try.underlying9), dif_pos (by omega)]
  rfl
/-- Where the first bytes that differ stand. -/
theorem less_at {a b : List UInt8} {k : Nat} (hp : a.take k = b.take k) (ha : k < a.length) (hb : k < b.length) (hne : a[k] ≠ b[k]) : (compareBytes a b < 0) ↔ a[k] < b[k] := by
  rw [cb_take k a b hp (by omega) (by omega), List.drop_eq_getElem_cons ha, List.drop_eq_getElem_cons hb]
  unfold compareBytes
  by_cases h1 : a[k] < b[k]
  · simp [h1]
  · have h2 : b[k] < a[k] := by
      rcases UInt8.lt_or_lt_of_ne hne with h | h
      · exact absurd h h1
      · exact h
    simp [h1, h2]
theorem less_end {a b : List UInt8} {k : Nat} (hp : a.take k = b.take k) (h : (k = a.length ∧ k ≤ b.length) ∨ (k = b.length ∧ k ≤ a.length)) : (compareBytes a b < 0) ↔ a.length < b.length := by
  rw [cb_take k a b hp (by omega) (by omega)]
  rcases h with ⟨h, h'⟩ | ⟨h, h'⟩
  · have e : a.drop k = [] := List.drop_eq_nil_of_le (by omega)
    rw [e]
    by_cases hb : k < b.length
    · rw [List.drop_eq_getElem_cons hb]
      simp [compareBytes]
      omega
    · have e2 : b.drop k = [] := List.drop_eq_nil_of_le (by omega)
      rw [e2]
      simp [compareBytes]
      omega
  · have e : b.drop k = [] := List.drop_eq_nil_of_le (by omega)
    rw [e]
    by_cases ha : k < a.length
    · rw [List.drop_eq_getElem_cons ha]
      simp [compareBytes]
      omega
    · have e2 : a.drop k = [] := List.drop_eq_nil_of_le (by omega)
      rw [e2]
      simp [compareBytes]
      omega
theorem take_next {a b : List UInt8} {k : Nat} (hp : a.take k = b.take k) (ha : k < a.length) (hb : k < b.length) (he : a[k] = b[k]) : a.take (k + 1) = b.take (k + 1) := by
  rw [List.take_succ_eq_append_getElem ha, List.take_succ_eq_append_getElem hb, hp, he]

set_option maxHeartbeats 1000000 in
theorem zzless_min (a b : ByteArray) (W : World) (la : a.size < 2 ^ 63) (lb : b.size < 2 ^ 63) (n : Nat) (hn : n = if b.size < a.size then b.size else a.size) : Calls Try.prog 91 #[.string a, .string b] W fun e w' => e = .returned (.bool (decide (compareBytes a.data.toList b.data.toList < 0))) ∧ Below W.heap.size W w' := by
  have hna : n ≤ a.size := by rw [hn]; split <;> omega
  have hnb : n ≤ b.size := by rw [hn]; split <;> omega
  have HN : Hid (n = a.size ∨ n = b.size) := by rw [hn]; split; exact .inr rfl; exact .inl rfl
  have ea : a.data.toList.length = a.size := Array.length_toList
  have eb : b.data.toList.length = b.size := Array.length_toList
  by_cases hab : b.size < a.size
  · rw [if_pos hab] at hn
    go_enter Try.func91, Try.ntmps91
    go_wp2
    go_loopw [6] (fun x wr => ∃ k : Nat, k ≤ n ∧ x = .int .i64 k ∧ a.data.toList.take k = b.data.toList.take k ∧ Below W.heap.size W wr) (fun x _ => n - (intOf x).toNat)
    case atStart => exact ⟨0, Nat.zero_le _, rfl, rfl, Below.refl _ _⟩
    case round =>
      obtain ⟨k, hk, rfl, hp, hb⟩ := hrel
      have HP : Hid (a.data.toList.take k = b.data.toList.take k) := hp
      clear hp
      by_cases hkl : k < n
      · have ia := idx9 a k (by omega)
        have ib := idx9 b k (by omega)
        have hla : k < a.data.toList.length := by omega
        have hlb : k < b.data.toList.length := by omega
        have HNX := fun (he : a.data.toList[k] = b.data.toList[k]) => take_next HP.out hla hlb he
        have HLA := fun (he : a.data.toList[k] ≠ b.data.toList[k]) => less_at HP.out hla hlb he
        have HNX' : Hid (a.data.toList[k] = b.data.toList[k] → a.data.toList.take (k + 1) = b.data.toList.take (k + 1)) := HNX
        have HLA' : Hid (a.data.toList[k] ≠ b.data.toList[k] → ((compareBytes a.data.toList b.data.toList < 0) ↔ a.data.toList[k] < b.data.toList[k])) := HLA
        clear HNX HLA
        generalize a.data.toList[k] = xa at *
        generalize b.data.toList[k] = xb at *
        by_cases he : xa = xb
        · subst he
          have hnn : ((xa.toNat : Int) == (xa.toNat : Int)) = true := by simp
          go_wp2
          go_quiet (fail)
          go_wp2
          exact ⟨⟨k + 1, by omega, by go_num, by first | exact HNX'.out rfl | exact HNX'.out trivial | simpa using HNX'.out, below_drewN hb _⟩, by simp [intOf]; omega⟩
        · have hne : ¬ (xa.toNat : Int) = (xb.toNat : Int) := by
            intro h
            exact he (UInt8.toNat_inj.1 (by omega))
          have hne' : ((xa.toNat : Int) == (xb.toNat : Int)) = false := by simpa using hne
          go_wp2
          go_quiet (fail)
          go_wp2
          go_quiet (fail)
          go_wp2
          go_ret
          refine ⟨?_, by first | exact below_drewN (below_drewN hb _) _ | exact below_drewN hb _⟩
          show Ending.returned (Value.bool (decide (xa.toNat < xb.toNat))) = _
          have h := HLA'.out he
          rw [UInt8.lt_iff_toNat_lt] at h
          congr 2
          rw [decide_eq_decide, h]
      · have hke : k = n := by omega
        have h := less_end (k := k) HP.out (by rcases HN.out with h | h <;> omega)
        rw [ea, eb] at h
        have HH : Hid ((compareBytes a.data.toList b.data.toList < 0) ↔ a.size < b.size) := h
        clear h
        go_wp2
        go_ret
        refine ⟨?_, hb⟩
        show Ending.returned (Value.bool (decide (a.size < b.size))) = _
        congr 2
        rw [decide_eq_decide, HH.out]
  · rw [if_neg hab] at hn
    go_enter Try.func91, Try.ntmps91
    go_wp2
    go_loopw [6] (fun x wr => ∃ k : Nat, k ≤ n ∧ x = .int .i64 k ∧ a.data.toList.take k = b.data.toList.take k ∧ Below W.heap.size W wr) (fun x _ => n - (intOf x).toNat)
    case atStart => exact ⟨0, Nat.zero_le _, rfl, rfl, Below.refl _ _⟩
    case round =>
      obtain ⟨k, hk, rfl, hp, hb⟩ := hrel
      have HP : Hid (a.data.toList.take k = b.data.toList.take k) := hp
      clear hp
      by_cases hkl : k < n
      · have ia := idx9 a k (by omega)
        have ib := idx9 b k (by omega)
        have hla : k < a.data.toList.length := by omega
        have hlb : k < b.data.toList.length := by omega
        have HNX := fun (he : a.data.toList[k] = b.data.toList[k]) => take_next HP.out hla hlb he
        have HLA := fun (he : a.data.toList[k] ≠ b.data.toList[k]) => less_at HP.out hla hlb he
        have HNX' : Hid (a.data.toList[k] = b.data.toList[k] → a.data.toList.take (k + 1) = b.data.toList.take (k + 1)) := HNX
        have HLA' : Hid (a.data.toList[k] ≠ b.data.toList[k] → ((compareBytes a.data.toList b.data.toList < 0) ↔ a.data.toList[k] < b.data.toList[k])) := HLA
        clear HNX HLA
        generalize a.data.toList[k] = xa at *
        generalize b.data.toList[k] = xb at *
        by_cases he : xa = xb
        · subst he
          have hnn : ((xa.toNat : Int) == (xa.toNat : Int)) = true := by simp
          go_wp2
          go_quiet (fail)
          go_wp2
          exact ⟨⟨k + 1, by omega, by go_num, by first | exact HNX'.out rfl | exact HNX'.out trivial | simpa using HNX'.out, below_drewN hb _⟩, by simp [intOf]; omega⟩
        · have hne : ¬ (xa.toNat : Int) = (xb.toNat : Int) := by
            intro h
            exact he (UInt8.toNat_inj.1 (by omega))
          have hne' : ((xa.toNat : Int) == (xb.toNat : Int)) = false := by simpa using hne
          go_wp2
          go_quiet (fail)
          go_wp2
          go_quiet (fail)
          go_wp2
          go_ret
          refine ⟨?_, by first | exact below_drewN (below_drewN hb _) _ | exact below_drewN hb _⟩
          show Ending.returned (Value.bool (decide (xa.toNat < xb.toNat))) = _
          have h := HLA'.out he
          rw [UInt8.lt_iff_toNat_lt] at h
          congr 2
          rw [decide_eq_decide, h]
      · have hke : k = n := by omega
        have h := less_end (k := k) HP.out (by rcases HN.out with h | h <;> omega)
        rw [ea, eb] at h
        have HH : Hid ((compareBytes a.data.toList b.data.toList < 0) ↔ a.size < b.size) := h
        clear h
        go_wp2
        go_ret
        refine ⟨?_, hb⟩
        show Ending.returned (Value.bool (decide (a.size < b.size))) = _
        congr 2
        rw [decide_eq_decide, HH.out]
theorem zzless_any (a b : ByteArray) (W : World) (la : a.size < 2 ^ 63) (lb : b.size < 2 ^ 63) : Calls Try.prog 91 #[.string a, .string b] W fun e w' => e = .returned (.bool (decide (compareBytes a.data.toList b.data.toList < 0))) ∧ Below W.heap.size W w' :=
  zzless_min a b W la lb _ rfl
end Go.Proofs.Qxb6605676a.Kz
