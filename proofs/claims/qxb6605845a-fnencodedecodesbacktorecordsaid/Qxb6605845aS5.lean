import Derived.Test.Qxb6605845aS4
namespace Go.Proofs.Qxb6605845a.Ec
set_option linter.unusedVariables false
set_option linter.unusedSimpArgs false
open Go.RowKit

/-- A mark of how far a walk has come. -/
structure Stage (n : Nat) : Prop where

set_option maxHeartbeats 800000 in
theorem appendWire (B b o : Nat) (site : ByteArray) (node : Int) (seq : Nat) (sv : Value) (bs : List UInt8) (w : World) (h : IdAt w b o site node seq) (hb : b < B) (hq : seq < 2 ^ 64) (hown : Row w B sv bs) (hBw : B ≤ w.heap.size) (hlim : bs.length + site.size + 50 ≤ 140737488355328) :
    Calls Try.prog 39 #[.pointer (some ⟨b, o, none⟩), sv] w (App B bs (encD site node seq) w) := by
  have c0 := h.c0
  have l1 := Lib.uvarint_length64 (x := site.size) (by omega)
  have l2 := Lib.uvarint_length64 (x := u64 node) (by have := u64_lt node; omega)
  have hs := encS_len site
  have hbl1 : (bs ++ encS site).length = bs.length + (encS site).length := List.length_append
  have hbl2 : (bs ++ encS site ++ Lib.uvarint (u64 node)).length = bs.length + (encS site).length + (Lib.uvarint (u64 node)).length := by rw [List.length_append, hbl1]
  have H1 : Hid (Calls Try.prog 41 #[sv, .string site] w (App B bs (encS site) w)) := appendString B site sv bs w hown hBw (by omega)
  have H2 : Hid (∀ v1 w1, Row w1 B v1 (bs ++ encS site) → Ap B w w1 → Calls Try.prog 38 #[v1, .int .u64 (IntKind.u64.wrap node)] w1 (App B (bs ++ encS site) (Lib.uvarint (u64 node)) w1)) := fun v1 w1 h1 h2 => appendUvarintZ B node v1 _ w1 h1 (Nat.le_trans hBw h2.bel.size) (by omega)
  have H3 : Hid (∀ v1 w1, Row w1 B v1 (bs ++ encS site ++ Lib.uvarint (u64 node)) → Ap B w w1 → Calls Try.prog 38 #[v1, .int .u64 seq] w1 (App B (bs ++ encS site ++ Lib.uvarint (u64 node)) (Lib.uvarint seq) w1)) := fun v1 w1 h1 h2 => appendUvarint B seq hq v1 _ w1 h1 (Nat.le_trans hBw h2.bel.size) (by omega)
  have HC1 : Hid (∀ w1, Ap B w w1 → w1.cell? ⟨b, o + 1, none⟩ = some (.int .i64 node)) := fun w1 hap => (IdAt.ap h hap.bel hb).c1
  have HC2 : Hid (∀ w1, Ap B w w1 → w1.cell? ⟨b, o + 2, none⟩ = some (.int .u64 seq)) := fun w1 hap => (IdAt.ap h hap.bel hb).c2
  have he : bs ++ encD site node seq = bs ++ encS site ++ Lib.uvarint (u64 node) ++ Lib.uvarint seq := by simp [encD]
  clear h hown hbl1 hbl2 hs hlim l1 l2
  go_enter Try.func39, Try.ntmps39
  go_wp2_with (first
    | (go_at_call 41; refine Calls.mono H1.out ?_; rintro _ w1 ⟨v1, rfl, hown1, hap1⟩; have d1 := HC1.out _ hap1)
    | (go_at_call 38; have _t := ‹Stage 2›; refine Calls.mono (H3.out _ _ (by assumption) (by assumption)) ?_; rintro _ w3 ⟨v3, rfl, hown3, hap3⟩)
    | (go_at_call 38; refine Calls.mono (H2.out _ _ (by assumption) (by assumption)) ?_; rintro _ w2 ⟨v2, rfl, hown2, hap2⟩; have hap12 := Ap.trans (by assumption) hap2; have d2 := HC2.out _ hap12; have st2 : Stage 2 := ⟨⟩))
  go_ret
  exact ⟨v3, rfl, by rw [he]; exact hown3, hap12.trans hap3⟩
end Go.Proofs.Qxb6605845a.Ec
