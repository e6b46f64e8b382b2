/-
  'Rows.FnRememberKeepsTheFirstStandingSaid', out of the walks 'Rm.first_law_*'. After the kit's own skeleton for laws with an argument in memory.
-/
import Derived.Test.Qxb6605676aZOpen
import Derived.Test.Qxb6605676aRn6
import Derived.Test.Qxb6605676aRfFacts
import Derived.Below
namespace Go.Proofs.Qxb6605676a.fnRememberKeepsTheFirstStanding
open Go.ChangeShapes Go.WideShapes Go.ChangeAt Go.RowKit
open Go.ChangeMaps (open_string shut_string)
set_option linter.unusedVariables false

theorem own : ownKnob Try.prog.godebug = none := by kernel_rfl

set_option maxRecDepth 100000 in
theorem lifted (os : Os) (started : os.Started) (H : Type) (enc : TypeId × Value → H) :
    ReturnsInHanded {} Try.checked os 8 .any (Rows.fnRememberKeepsTheFirstStandingSpec.pre6 enc Try.prog Try.f8 Rows.fnRememberKeepsTheFirstStandingRow.domain false) (Rows.fnRememberKeepsTheFirstStandingSpec.post enc Try.prog Try.f8 false true false false) := by
  refine returnsInHanded_of_change (C := Try.checked) own started (by kernel_rfl) Try.func8
    (ChangeSpec.witness6 (enc := enc) (C := Try.checked) false ⟨#[], #[.int .i64 0, .int .i64 0, .string ByteArray.empty, .pointer none, .pointer none, .bool false, .int .i64 0, .bool false, .int .i64 0], []⟩ 8 (by kernel_rfl) (by kernel_rfl) (by kernel_rfl) (by kernel_rfl)) ?_
  intro W base args ds gs before hval0 hW hcnd _
  have hval : ∀ (j : Nat) t v, Try.f8.params[j]? = some t → args[j]? = some v → Value.okWide Try.prog W .any base t v := hval0
  have hW' := hW
  obtain ⟨p, q, hA0, hV, rfl, hfz, hnd⟩ := hW
  have hA : DataW.TrodAll enc Try.prog W 0 (fun _ => true) true Try.f8.params.toList args.toList ds p := hA0
  rw [Try.params8] at hA hval
  obtain ⟨v0, vs0, d0, ds0, p0, q0, hargs, rfl, rfl, h0, r0⟩ := trodAll_cons hA
  obtain ⟨v1, vs1, d1, ds1, p1, q1, rfl, rfl, rfl, h1, r1⟩ := trodAll_cons r0
  obtain ⟨v2, vs2, d2, ds2, p2, q2, rfl, rfl, rfl, h2, r2⟩ := trodAll_cons r1
  obtain ⟨v3, vs3, d3, ds3, p3, q3, rfl, rfl, rfl, h3, r3⟩ := trodAll_cons r2
  obtain ⟨v4, vs4, d4, ds4, p4, q4, rfl, rfl, rfl, h4, r4⟩ := trodAll_cons r3
  obtain ⟨v5, vs5, d5, ds5, p5, q5, rfl, rfl, rfl, h5, r5⟩ := trodAll_cons r4
  obtain ⟨v6, vs6, d6, ds6, p6, q6, rfl, rfl, rfl, h6, r6⟩ := trodAll_cons r5
  obtain ⟨v7, vs7, d7, ds7, p7, q7, rfl, rfl, rfl, h7, r7⟩ := trodAll_cons r6
  obtain ⟨v8, vs8, d8, ds8, p8, q8, rfl, rfl, rfl, h8, r8⟩ := trodAll_cons r7
  obtain ⟨rfl, rfl, rfl⟩ := trodAll_nil r8
  obtain rfl : args = #[v0, v1, v2, v3, v4, v5, v6, v7, v8] := by cases args; simp_all
  obtain ⟨rfl, rfl⟩ := trodVars_none hV
  obtain ⟨a0, rfl, rfl, rfl, w0⟩ := open_int Try.underlying3 (hval 0 3 v0 rfl rfl) h0
  obtain ⟨a1, rfl, rfl, rfl, w1⟩ := open_int Try.underlying3 (hval 1 3 v1 rfl rfl) h1
  obtain ⟨a2, rfl, rfl, rfl, w2⟩ := open_string Try.underlying9 (hval 2 9 v2 rfl rfl) h2
  obtain ⟨a3, rfl⟩ := okWide_pointer Try.underlying76 (hval 3 76 v3 rfl rfl)
  have k3 := h3
  have lt3 : ∀ x ∈ p3, x.block < W.heap.size := by obtain ⟨m, hm⟩ := k3; exact DataW.trod_lt m _ _ _ hm
  obtain ⟨a4, rfl⟩ := okWide_pointer Try.underlying76 (hval 4 76 v4 rfl rfl)
  have k4 := h4
  have lt4 : ∀ x ∈ p4, x.block < W.heap.size := by obtain ⟨m, hm⟩ := k4; exact DataW.trod_lt m _ _ _ hm
  obtain ⟨a5, rfl, rfl, rfl⟩ := open_bool Try.underlying4 (hval 5 4 v5 rfl rfl) h5
  obtain ⟨a6, rfl, rfl, rfl, w6⟩ := open_int Try.underlying2 (hval 6 2 v6 rfl rfl) h6
  obtain ⟨a7, rfl, rfl, rfl⟩ := open_bool Try.underlying4 (hval 7 4 v7 rfl rfl) h7
  obtain ⟨a8, rfl, rfl, rfl, w8⟩ := open_int Try.underlying2 (hval 8 2 v8 rfl rfl) h8
  clear hA0 hval0
  have walk : Calls Try.prog 8 #[.int .i64 a0, .int .i64 a1, .string a2, .pointer a3, .pointer a4, .bool a5, .int .i64 a6, .bool a7, .int .i64 a8] W fun e w' => e = .returned (.bool true) ∧ Below W.heap.size W w' := by
    obtain ⟨fuel3, hf3⟩ := k3
    obtain ⟨fuel4, hf4⟩ := k4
    rcases Rm.open_zalarm hf3 with rfl | ⟨b, o, z, rfl, hz, hok, m1, m2, m3⟩
    · rcases Rm.open_zalarm hf4 with rfl | ⟨b', o', z', rfl, hz', hok', m4, m5, m6⟩
      · exact Rm.first_law_nn a0 a1 a2 a5 a6 a7 a8 (Rm.wf64 w6).1 (Rm.wf64 w6).2 (Rm.wf64 w8).1 (Rm.wf64 w8).2 W w2
      · exact Rm.first_law_ns a0 a1 a2 b' o' z' hok' a5 a6 a7 a8 (Rm.wf64 w6).1 (Rm.wf64 w6).2 (Rm.wf64 w8).1 (Rm.wf64 w8).2 W hz' w2 m4 m5 m6
    · rcases Rm.open_zalarm hf4 with rfl | ⟨b', o', z', rfl, hz', hok', m4, m5, m6⟩
      · exact Rm.first_law_sn a0 a1 a2 b o z hok a5 a6 a7 a8 (Rm.wf64 w6).1 (Rm.wf64 w6).2 (Rm.wf64 w8).1 (Rm.wf64 w8).2 W hz w2 m1 m2 m3
      · exact Rm.first_law_ss a0 a1 a2 b o z hok b' o' z' hok' a5 a6 a7 a8 (Rm.wf64 w6).1 (Rm.wf64 w6).2 (Rm.wf64 w8).1 (Rm.wf64 w8).2 W hz hz' w2 m1 m2 m3 m4 m5 m6
  refine walk.mono fun e W' ⟨he, bel⟩ => ?_
  subst he
  exact ⟨_, rfl, _, _, _, [], _, [], hW', trodAll_mk1 (shut_bool Try.underlying4 _), (trodAll_cons_mk (shut_int Try.underlying3 w0) (trodAll_cons_mk (shut_int Try.underlying3 w1) (trodAll_cons_mk (shut_string Try.underlying9 w2) (trodAll_cons_mk (Below.trod Head.laidOut_eq (by kernel_rfl) (of_decide_eq_true (by kernel_rfl)) k3 bel lt3) (trodAll_cons_mk (Below.trod Head.laidOut_eq (by kernel_rfl) (of_decide_eq_true (by kernel_rfl)) k4 bel lt4) (trodAll_cons_mk (shut_bool Try.underlying4 _) (trodAll_cons_mk (shut_int Try.underlying2 w6) (trodAll_cons_mk (shut_bool Try.underlying4 _) (trodAll_cons_mk (shut_int Try.underlying2 w8) trodAll_mk0))))))))), rfl, bel.frame _, fun h => by cases h⟩

theorem over : Rows.fnRememberKeepsTheFirstStandingRow.holds Try.pinned (OpenSpec.ofChange Rows.fnRememberKeepsTheFirstStandingSpec) :=
  OpenClaim.holds_of_wide 8 Try.f8 rfl rfl rfl rfl rfl rfl rfl ⟨rfl, rfl, rfl, rfl, rfl⟩ rfl rfl rfl rfl rfl (by kernel_rfl) Try.func8 closed
    (of_decide_eq_true (by kernel_rfl)) (by unfold Func.isWrapper; first | (rw [if_pos (by decide +kernel)]; kernel_rfl) | (rw [if_neg (by decide +kernel)]; exact ⟨rfl, rfl⟩))
    (fun os started H enc _ => lifted os started H enc)

/-- THE STATEMENT. -/
theorem proved : Rows.FnRememberKeepsTheFirstStandingSaid := over
#print axioms proved
end Go.Proofs.Qxb6605676a.fnRememberKeepsTheFirstStanding
