import Derived.Test.Qxb6605676aMaps2
namespace Go.Proofs.Qxb6605676a.Mp
set_option linter.unusedVariables false
set_option linter.unusedSimpArgs false
open Go.RowKit

/-! ### keys that are strings -/
def sv (s : ByteArray) : Value := .string s
def sameS (a b : ByteArray) : Bool := a.toList == b.toList
theorem sameS_iff (a b : ByteArray) : sameS a b = true ↔ a = b := by simp [sameS, bytes_eq_iff]

theorem now9 (x : ByteArray) : ∀ (L : List (ByteArray × Value)) (es : List MapEntry) (i : Nat), es.map (fun e => (e.key, e.val)) = L.map (fun p => (sv p.1, p.2)) → Instr.findNow .string (sv x) es i = some (seek sameS x L i) := by
  intro L
  induction L with
  | nil => intro es i h; simp at h; subst h; simp [Instr.findNow, seek]
  | cons p r ih =>
    intro es i h
    cases es with
    | nil => simp at h
    | cons e es =>
      simp at h
      obtain ⟨⟨h1, h2⟩, h3⟩ := h
      have h3' : es.map (fun e => (e.key, e.val)) = r.map (fun p => (sv p.1, p.2)) := by simpa using h3
      have hq : Instr.sameNow .string (sv x) e.key = some (sameS x p.1) := by
        rw [h1]
        show some (x == p.1) = _
        rw [beq_toListBytes]; rfl
      simp only [Instr.findNow, hq, seek]
      cases hs : sameS x p.1
      · simp [ih es (i + 1) h3']
      · simp [h2]

theorem keyTy9 : KeyTy 9 sv sameS where
  iff := sameS_iff
  check e x w := by kernel_rfl
  find x L es w h := by
    simp only [Instr.findKey, Sem.run_bind, run_underlying Try.underlying9, Result.andThen_ok, now9 x L es 0 h]
    rfl
  bits x := by
    have h : (x == x) = true := by rw [beq_toListBytes]; simp
    simp [sv, Instr.sameBits, h]

/-! ### keys that are pairs of strings: the struct 'series', the array '[2]string' -/
def pv (p : ByteArray × ByteArray) : Value := .agg #[.string p.1, .string p.2]
def sameP (a b : ByteArray × ByteArray) : Bool := a.1.toList == b.1.toList && a.2.toList == b.2.toList
theorem sameP_iff (a b : ByteArray × ByteArray) : sameP a b = true ↔ a = b := by
  obtain ⟨a1, a2⟩ := a
  obtain ⟨b1, b2⟩ := b
  simp [sameP, bytes_eq_iff]
theorem bitsP (x : ByteArray × ByteArray) : Instr.sameBits 10000 (pv x) (pv x) = true := by
  have h : (x.1 == x.1) = true := by rw [beq_toListBytes]; simp
  have h2 : (x.2 == x.2) = true := by rw [beq_toListBytes]; simp
  simp [pv, Instr.sameBits, h, h2]

theorem fields141 : Try.prog.underlying 141 = some (.struct (Try.prog.fieldsOf 141)) := by kernel_rfl
theorem held141 : Try.prog.stoodInHeld 141 = false := by kernel_rfl
theorem equal141 (a b : ByteArray × ByteArray) (w : World) : (Op.equal 141 (pv a) (pv b)).run Try.prog w = .ok (sameP a b) w := by
  unfold Op.equal Op.maxDepth pv sameP
  rw [run_equalIn_struct w 9999 141 _ _ fields141 held141]
  go_simp
  by_cases h1 : a.1.toList = b.1.toList <;> by_cases h2 : a.2.toList = b.2.toList <;> simp [h1, h2]
theorem keyTy141 : KeyTy 141 pv sameP where
  iff := sameP_iff
  check e x w := by kernel_rfl
  find x L es w h := findKey_struct fields141 equal141 x L es w h
  bits := bitsP

theorem equal126 (a b : ByteArray × ByteArray) (w : World) : (Op.equal 126 (pv a) (pv b)).run Try.prog w = .ok (sameP a b) w := by
  have h1 : (a.1 == b.1) = (a.1.toList == b.1.toList) := beq_toListBytes _ _
  have h2 : (a.2 == b.2) = (a.2.toList == b.2.toList) := beq_toListBytes _ _
  have k : (Op.equal 126 (pv a) (pv b)).run Try.prog w = if a.1 == b.1 then .ok (a.2 == b.2) w else .ok false w := by
    unfold Op.equal Op.maxDepth pv
    rw [show (10000 : Nat) = 9999 + 1 from rfl, Op.equalIn]
    simp only [Sem.run_bind, run_underlying Try.underlying126, Result.andThen_ok]
    have ha : ∀ w, (isAgg 9).run Try.prog w = .ok false w := fun _ => by kernel_rfl
    go_simp
    rw [show List.range' 0 2 = [0, 1] from rfl]
    simp only [List.forIn_cons, List.forIn_nil]
    go_simp
    by_cases q1 : a.1.toList = b.1.toList <;> by_cases q2 : a.2.toList = b.2.toList <;> simp [q1, q2, Sem.run_bind, ha, run_equalIn_string, Try.underlying9]
  rw [k, h1, h2]
  unfold sameP
  cases a.1.toList == b.1.toList <;> simp
theorem findKey_array {n : Nat} {et : TypeId} {kt : TypeId} {K : Type} {enc : K → Value} {same : K → K → Bool} (hu : Try.prog.underlying kt = some (.array n et)) (heq : ∀ a b w, (Op.equal kt (enc a) (enc b)).run Try.prog w = .ok (same a b) w) (x : K)
    (L : List (K × Value)) (es : List MapEntry) (w : World) (h : es.map (fun e => (e.key, e.val)) = L.map (fun p => (enc p.1, p.2))) : (Instr.findKey kt (enc x) es).run Try.prog w = .ok (seek same x L 0) w := by
  simp only [Instr.findKey, Sem.run_bind, run_underlying hu, Result.andThen_ok]
  cases L with
  | nil => simp at h; subst h; simp [Instr.findNow, seek]
  | cons p r =>
    cases es with
    | nil => simp at h
    | cons e es =>
      have hn : Instr.findNow (.array n et) (enc x) (e :: es) 0 = none := by simp [Instr.findNow, Instr.sameNow]
      simp only [hn]
      exact asking heq x _ _ w 0 h
theorem keyTy126 : KeyTy 126 pv sameP where
  iff := sameP_iff
  check e x w := by kernel_rfl
  find x L es w h := findKey_array Try.underlying126 equal126 x L es w h
  bits := bitsP
end Go.Proofs.Qxb6605676a.Mp
