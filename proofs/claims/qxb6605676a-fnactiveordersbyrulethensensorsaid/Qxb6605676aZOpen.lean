import Derived.Test.Qxb6605676aRows
import Derived.Test.Qxb6605676aRm1
import Derived.WalkKit
import Derived.ProofKit
import Derived.OpenShut
import Derived.ShutString
import Derived.ChangeOld
import Derived.Deep.Fields
namespace Go.Proofs.Qxb6605676a.Rm
set_option linter.unusedVariables false
set_option linter.unusedSimpArgs false
open Go.ChangeShapes Go.WideShapes Go.ChangeAt Go.RowKit Go.Deep

theorem wf64 {n : Int} (h : (Lit.int .i64 n).wf = true) : -9223372036854775808 ≤ n ∧ n ≤ 9223372036854775807 := by
  simpa using bounds_i64 h

section
variable {H : Type} {enc : TypeId × Value → H} {w : World} {base : Nat} {spare : Nat → Bool} {held : Bool}

theorem trod_float {P : Program} {t : TypeId} {k : FloatKind} {fuel : Nat} {cs : List Value} {x : DataW H × List MemPlace} (ht : P.underlying t = some (.float k)) (h : DataW.trod enc P w base spare held fuel t cs = some x) : ∃ n, cs = [.float k n] := by
  cases fuel with
  | zero => simp [DataW.trod] at h
  | succ n =>
    unfold DataW.trod at h
    rw [ht] at h
    split at h <;> simp_all

/-- A *ZAlarm that came in: nil, or a ZAlarm in memory. -/
theorem open_zalarm {fuel : Nat} {a : Option Addr} {x : DataW H × List MemPlace} (h : DataW.trod enc Try.prog w base spare held fuel 76 (Value.pointer a).cells.toList = some x) :
    a = none ∨ ∃ b o z, a = some ⟨b, o, none⟩ ∧ ZAt w b o z ∧ z.Ok ∧ z.st.size ≤ maxLen ∧ z.ls.size ≤ maxLen ∧ z.lm.size ≤ maxLen := by
  rcases open_ptr_fields Try.underlying76 Try.underlying86 (hone_of (by kernel_rfl)) (by kernel_rfl) (by decide) h with ⟨hcs, _⟩ | ⟨b, o, n, V, Y, hcs, _, _, hf⟩
  · left
    simpa [Value.cells] using hcs
  · right
    simp [Value.cells] at hcs
    subst hcs
    obtain ⟨e0, t0⟩ := hf 0 _ rfl
    obtain ⟨e1, t1⟩ := hf 1 _ rfl
    obtain ⟨e2, t2⟩ := hf 2 _ rfl
    obtain ⟨e3, t3⟩ := hf 3 _ rfl
    obtain ⟨e4, t4⟩ := hf 4 _ rfl
    obtain ⟨e5, t5⟩ := hf 5 _ rfl
    obtain ⟨e6, t6⟩ := hf 6 _ rfl
    obtain ⟨e7, t7⟩ := hf 7 _ rfl
    obtain ⟨s0, q0, _, m0⟩ := DataW.trod_string Try.underlying9 t0
    obtain ⟨n1, q1, _, m1⟩ := DataW.trod_int Try.underlying2 t1
    obtain ⟨n2, q2, _, m2⟩ := DataW.trod_int Try.underlying2 t2
    obtain ⟨s3, q3, _, m3⟩ := DataW.trod_string Try.underlying9 t3
    obtain ⟨s4, q4, _, m4⟩ := DataW.trod_string Try.underlying9 t4
    obtain ⟨f5, q5⟩ := trod_float Try.underlying60 t5
    obtain ⟨b6, q6, _⟩ := DataW.trod_bool Try.underlying4 t6
    obtain ⟨n7, q7, _, m7⟩ := DataW.trod_int Try.underlying2 t7
    simp only [List.cons.injEq, and_true] at q0 q1 q2 q3 q4 q5 q6 q7
    rw [q0] at e0; rw [q1] at e1; rw [q2] at e2; rw [q3] at e3; rw [q4] at e4; rw [q5] at e5; rw [q6] at e6; rw [q7] at e7
    refine ⟨b, o, ⟨s0, n1, n2, s3, s4, f5, b6, n7⟩, rfl, ⟨e0, e1, e2, e3, e4, e5, e6, e7⟩, ?_, m0, m3, m4⟩
    exact ⟨(wf64 m1).1, (wf64 m1).2, (wf64 m2).1, (wf64 m2).2, (wf64 m7).1, (wf64 m7).2⟩
end
end Go.Proofs.Qxb6605676a.Rm
