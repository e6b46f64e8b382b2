import Derived.Test.Qxb6605676aKz27
import Derived.Test.Qxb6605676aKz17
import Derived.Test.Qxb6605676aRm3
namespace Go.Proofs.Qxb6605676a.Kz
set_option linter.unusedVariables false
set_option linter.unusedSimpArgs false
open Go.RowKit Go.Proofs.Qxb6605676a.Mp Go.Proofs.Qxb6605676a.Tm Go.Proofs.Qxb6605676a.En

noncomputable def body31a : Code := ((loopsOf (Try.f31.body.getD .skip))[0]?).getD .skip

/-- The engine as Restore leaves it, beside the law's own rules and keys. -/
structure EngIs (mb rb rz kb : Nat) (rs : Array Value) (R : List RuleD) (K : List ZK) (S : List ZS) (ptrs : List Nat) (W : World) : Prop where
  rules : RulesAt W rz R
  keys : KeysAt W kb 0 K
  eng : Eng W mb rb R.length rs (alMap R (K.zip ptrs)) (coMap R K) [] (lsMap S) []
  ptr : ∀ q ab, (q, ab) ∈ K.zip ptrs → (keyA R q).isSome = true → W.heap[ab]? = some (Obj.cells (alCells q) 136)

section
variable {mb rb rz kb : Nat} {rs : Array Value} {R : List RuleD} {K : List ZK} {S : List ZS} {ptrs : List Nat} {W W' : World}
theorem EngIs.below (h : EngIs mb rb rz kb rs R K S ptrs W) (hb : Below W.heap.size W W') : EngIs mb rb rz kb rs R K S ptrs W' :=
  ⟨h.rules.below hb, h.keys.below hb, h.eng.below hb, fun q ab hq hk => by
    have := h.ptr q ab hq hk
    rw [hb.block ab (Array.getElem?_eq_some_iff.1 this).1]
    exact this⟩
theorem EngIs.hb (hb : Below W.heap.size W W') (h : Hid (EngIs mb rb rz kb rs R K S ptrs W)) : Hid (EngIs mb rb rz kb rs R K S ptrs W') := h.out.below hb
theorem EngIs.hd (n : Nat) (h : Hid (EngIs mb rb rz kb rs R K S ptrs W)) : Hid (EngIs mb rb rz kb rs R K S ptrs (W.drewN n)) := h.out.below ⟨rfl, rfl, rfl, Nat.le_refl _, fun _ _ => rfl⟩

theorem EngIs.key (h : EngIs mb rb rz kb rs R K S ptrs W) {j : Nat} {q : ZK} (hq : K[j]? = some q) : W.cell? ⟨kb, j * 11, none⟩ = some (.string q.rule) ∧ W.cell? ⟨kb, j * 11 + 1, none⟩ = some (.string q.sensor) ∧ W.cell? ⟨kb, j * 11 + 2, none⟩ = some (.string q.metric) ∧ W.cell? ⟨kb, j * 11 + 3, none⟩ = some (.string q.sev) ∧ W.cell? ⟨kb, j * 11 + 4, none⟩ = some (.string q.state) ∧ W.cell? ⟨kb, j * 11 + 5, none⟩ = some (.int .i64 q.since) ∧ W.cell? ⟨kb, j * 11 + 6, none⟩ = some (.int .i64 q.lts) ∧ W.cell? ⟨kb, j * 11 + 7, none⟩ = some (.float .f64 q.val) ∧ W.cell? ⟨kb, j * 11 + 8, none⟩ = some (.bool q.cl) ∧ W.cell? ⟨kb, j * 11 + 9, none⟩ = some (.int .i64 q.cs) ∧ W.cell? ⟨kb, j * 11 + 10, none⟩ = some (.int .i64 q.cool) := by
  obtain ⟨hj, rfl⟩ := List.getElem?_eq_some_iff.1 hq
  have := h.keys.range j hj
  rw [Nat.zero_add] at this
  exact zkR this

/-- The alarm that the last key of a level has left. -/
theorem EngIs.at (h : EngIs mb rb rz kb rs R K S ptrs W) (hpl : ptrs.length = K.length) {j : Nat} {q : ZK} (hq : K[j]? = some q) {i l : Int} (hi : 0 ≤ i) (hm : mtc R q.rule q.metric q.sev = (i, l)) (hs : (q.state.toList == [79, 75]) = false) (hla : lastTo (alarmAt R K i l q.sensor) K.length = j) :
    ∃ ab, (Calls Try.prog 72 #[.pointer (some ⟨mb + 5, 0, none⟩), .int .i64 i, .int .i64 l, .string q.sensor] W fun e w' => e = .returned (.pointer (some ⟨ab, 0, none⟩)) ∧ W = w') ∧ W.heap[ab]? = some (Obj.cells (alCells q) 136) := by
  obtain ⟨hj, rfl⟩ := List.getElem?_eq_some_iff.1 hq
  have hg := alarm_look R K ptrs hpl i l K[j].sensor hi
  rw [hla, if_neg (by omega), Int.toNat_natCast, getD_at ptrs 0 j (by omega)] at hg
  refine ⟨ptrs[j], zzalarmAt_any h.eng i l K[j].sensor _ (by rw [hg]; rfl), h.ptr K[j] ptrs[j] ?_ ?_⟩
  · have : (K.zip ptrs)[j]? = some (K[j], ptrs[j]) := by rw [List.getElem?_eq_getElem (by simp; omega)]; simp
    exact List.mem_of_getElem? this
  · unfold keyA
    rw [okB_list, hs, hm, if_neg (by simp), if_neg (by simpa using hi)]
    rfl
theorem fields45 {q : ZK} (hq : ZK.Ok q) {ab : Nat} (h : W.heap[ab]? = some (Obj.cells (alCells q) 136)) :
    Calls Try.prog 45 #[.pointer (some ⟨ab, 0, none⟩)] W fun e w' => e = .returned (.tuple #[.string q.state, .int .i64 q.since, .int .i64 q.lts, .string q.sensor, .string q.metric, .float .f64 q.val, .bool q.cl, .int .i64 q.cs]) ∧ Below W.heap.size W w' :=
  Rm.alarmFields_any ⟨q.state, q.since, q.lts, q.sensor, q.metric, q.val, q.cl, q.cs⟩ ⟨hq.since.1, hq.since.2, hq.lts.1, hq.lts.2, hq.cs.1, hq.cs.2⟩ ab W h
theorem EngIs.coolAt (h : EngIs mb rb rz kb rs R K S ptrs W) {j : Nat} {q : ZK} (hq : K[j]? = some q) (hok : ZK.Ok q) {i l : Int} (hi : 0 ≤ i) (hla : lastTo (coolAt R K i l q.sensor) K.length = j) :
    Calls Try.prog 44 #[.pointer (some ⟨mb + 5, 0, none⟩), .int .i64 i, .int .i64 l, .string q.sensor] W fun e w' => e = .returned (.tuple #[.int .i64 q.cool, .bool true]) ∧ Below W.heap.size W w' := by
  obtain ⟨hj, rfl⟩ := List.getElem?_eq_some_iff.1 hq
  have hg := cool_look R K i l K[j].sensor hi
  rw [hla, if_neg (by omega), Int.toNat_natCast, getD_at K noKey j hj] at hg
  exact zzcoolat_any h.eng i l K[j].sensor K[j].cool hok.cool.1 hok.cool.2 true (by rw [hg]; rfl) (by rw [hg]; rfl)
theorem EngIs.lastAt (h : EngIs mb rb rz kb rs R K S ptrs W) {j : Nat} {q : ZS} (hq : S[j]? = some q) (hok : I64 q.last) (hla : lastTo (serAt S q.sensor q.metric) S.length = j) :
    Calls Try.prog 74 #[.pointer (some ⟨mb + 5, 0, none⟩), .string q.sensor, .string q.metric] W fun e w' => e = .returned (.tuple #[.int .i64 q.last, .bool true]) ∧ Below W.heap.size W w' := by
  obtain ⟨hj, rfl⟩ := List.getElem?_eq_some_iff.1 hq
  have hg := ls_look S S[j].sensor S[j].metric
  rw [hla, if_neg (by omega), Int.toNat_natCast, getD_at S noSer j hj] at hg
  exact zzlastAt_any h.eng S[j].sensor S[j].metric S[j].last hok.1 hok.2 true (by rw [hg]; rfl) (by rw [hg]; rfl)
end
end Go.Proofs.Qxb6605676a.Kz
