import Derived.Test.Qxb6605676aHead
namespace Go.Proofs.Qxb6605676a.fnActiveOrdersByRuleThenSensor
set_option linter.unusedVariables false
set_option linter.unusedSimpArgs false

set_option maxHeartbeats 8000000 in
theorem closed : joinedFacts Try.prog 4 Try.f4 Rows.fnActiveOrdersByRuleThenSensorSpec Rows.fnActiveOrdersByRuleThenSensorRow = true := by
  unfold joinedFacts
  refine Head.both (Head.both (Head.both (Head.both (Head.both (Head.both (Head.both (Head.both (Head.both (Head.both (Head.both (Head.both (Head.both (Head.both (Head.both (Head.both (Head.both (Head.both (Head.both (Head.both (Head.both (Head.both (Head.both (Head.both (Head.both (Head.both (Head.both (Head.both (Head.both (Head.both (Head.both (?_) ?_) ?_) ?_) ?_) ?_) ?_) ?_) ?_) ?_) ?_) ?_) ?_) ?_) ?_) ?_) ?_) ?_) ?_) ?_) ?_) ?_) ?_) ?_) ?_) ?_) ?_) ?_) ?_) ?_) ?_) ?_
  · as_aux_lemma => kernel_rfl
  · exact Head.laidOut_eq
  · exact Head.mapsRowed_eq
  · as_aux_lemma => kernel_rfl
  · as_aux_lemma => kernel_rfl
  · as_aux_lemma => kernel_rfl
  · as_aux_lemma => kernel_rfl
  · as_aux_lemma => kernel_rfl
  · as_aux_lemma => kernel_rfl
  · as_aux_lemma => kernel_rfl
  · as_aux_lemma => kernel_rfl
  · as_aux_lemma => kernel_rfl
  · as_aux_lemma => kernel_rfl
  · as_aux_lemma => kernel_rfl
  · as_aux_lemma => kernel_rfl
  · as_aux_lemma => kernel_rfl
  · as_aux_lemma => kernel_rfl
  · as_aux_lemma => kernel_rfl
  · as_aux_lemma => kernel_rfl
  · as_aux_lemma => kernel_rfl
  · as_aux_lemma => kernel_rfl
  · as_aux_lemma => kernel_rfl
  · as_aux_lemma => kernel_rfl
  · as_aux_lemma => kernel_rfl
  · as_aux_lemma => kernel_rfl
  · exact Head.mayEnter_eq
  · rw [Head.liftsFinal_eq]; rfl
  · rw [Head.make_eq]; rfl
  · as_aux_lemma => kernel_rfl
  · as_aux_lemma => kernel_rfl
  · as_aux_lemma => kernel_rfl
  · as_aux_lemma => kernel_rfl
end Go.Proofs.Qxb6605676a.fnActiveOrdersByRuleThenSensor
