import Derived.Test.Qxb6605845aS19
namespace Go.Proofs.Qxb6605845a.Ec
set_option linter.unusedVariables false
set_option linter.unusedSimpArgs false
open Go.RowKit

set_option maxHeartbeats 400000 in
theorem makeName (t q : ByteArray) (w : World) : Calls Try.prog 21 #[.string t, .string q] w fun e w' => e = .returned (.agg #[.string t, .string q]) ∧ Below w.heap.size w w' := by
  go_enter Try.func21, Try.ntmps21
  go_wp2
  refine bodyPost_ret (v := .agg #[.string t, .string q]) (by simp [results, Try.results21, go_sem]) rfl ⟨rfl, ?_⟩
  exact (Below.refl _ _).alloc (Nat.le_refl _) _

set_option maxHeartbeats 800000 in
theorem newRecord (k : Int) (site : ByteArray) (node : Int) (idSeq : Int) (pa ra wa : Option Addr) (pn pc rn rc wn wc : Nat) (ticket seq : Int) (w : World) :
    Calls Try.prog 22 #[.int .u8 k, .agg #[.string site, .int .i64 node, .int .u64 idSeq], .slice pa pn pc, .int .u64 ticket, .slice ra rn rc, .slice wa wn wc, .int .u64 seq, .slice none 0 0] w fun e w' =>
      e = .returned (.pointer (some ⟨w.heap.size + 1, 0, none⟩)) ∧ Below w.heap.size w w' ∧ w'.heap.size = w.heap.size + 2 ∧
      w'.heap[w.heap.size + 1]? = some (.cells #[.int .u8 k, .string site, .int .i64 node, .int .u64 idSeq, .slice pa pn pc, .int .u64 ticket, .slice ra rn rc, .slice wa wn wc, .int .u64 seq, .slice none 0 0] 70) := by
  go_enter Try.func22, Try.ntmps22
  go_wp2
  go_ret
  refine ⟨rfl, ((Below.refl _ _).alloc (Nat.le_refl _) _).alloc (by simp) _, by simp, ?_⟩
  have := heap_alloc_new (w.alloc (.cells #[.string site, .int .i64 node, .int .u64 idSeq] 51)) (.cells #[.int .u8 k, .string site, .int .i64 node, .int .u64 idSeq, .slice pa pn pc, .int .u64 ticket, .slice ra rn rc, .slice wa wn wc, .int .u64 seq, .slice none 0 0] 70)
  simpa using this
end Go.Proofs.Qxb6605845a.Ec
