import Derived.Test.Qxb6605676aTime3
import Derived.Maps.OwnSet
import Derived.KernelRfl
namespace Go.Proofs.Qxb6605676a.Mp
set_option linter.unusedVariables false
set_option linter.unusedSimpArgs false
open Go.RowKit

theorem bytes_eq_iff (a b : ByteArray) : a.toList = b.toList ↔ a = b := by
  rw [ByteArray.toList_eq, ByteArray.toList_eq]
  obtain ⟨⟨x⟩⟩ := a
  obtain ⟨⟨y⟩⟩ := b
  simp

/-- A level's key: its rule's place, its own place, the sensor. -/
structure Key where
  rule : Int
  level : Int
  sensor : ByteArray
def kv (k : Key) : Value := .agg #[.int .i64 k.rule, .int .i64 k.level, .string k.sensor]
def Key.same (a b : Key) : Bool := a.rule == b.rule && (a.level == b.level && a.sensor.toList == b.sensor.toList)

theorem same_iff (a b : Key) : a.same b = true ↔ a = b := by
  obtain ⟨a1, a2, a3⟩ := a
  obtain ⟨b1, b2, b3⟩ := b
  simp [Key.same, bytes_eq_iff]

theorem fields134 : Try.prog.underlying 134 = some (.struct (Try.prog.fieldsOf 134)) := by kernel_rfl
theorem held134 : Try.prog.stoodInHeld 134 = false := by kernel_rfl

theorem equal134 (a b : Key) (w : World) : (Op.equal 134 (kv a) (kv b)).run Try.prog w = .ok (a.same b) w := by
  unfold Op.equal Op.maxDepth kv Key.same
  rw [run_equalIn_struct w 9999 134 _ _ fields134 held134]
  go_simp
  by_cases h1 : a.rule = b.rule <;> by_cases h2 : a.level = b.level <;> by_cases h3 : a.sensor.toList = b.sensor.toList <;> simp [h1, h2, h3]

theorem check134 (a : Key) (e : Bool) (w : World) : (Instr.checkKey e 10000 134 (kv a)).run Try.prog w = .ok () w := by
  kernel_rfl

theorem bits134 (a : Key) : Instr.sameBits 10000 (kv a) (kv a) = true := by
  have h : (a.sensor == a.sensor) = true := by rw [beq_toListBytes]; simp
  simp [kv, Instr.sameBits, h]

/-! ### a map as the list of its entries -/
section
variable {K : Type}

/-- The entry at key x: its place and its element. -/
def seek (same : K → K → Bool) (x : K) : List (K × Value) → Nat → Option (Nat × Value)
  | [], _ => none
  | p :: r, i => if same x p.1 then some (i, p.2) else seek same x r (i + 1)

/-- The element at key x. -/
def get (same : K → K → Bool) (x : K) : List (K × Value) → Option Value
  | [] => none
  | p :: r => if same x p.1 then some p.2 else get same x r

/-- The entries behind 'm[x] = v': in its place where the key is there, else at the end. -/
def put (same : K → K → Bool) (x : K) (v : Value) : List (K × Value) → List (K × Value)
  | [] => [(x, v)]
  | p :: r => if same x p.1 then (x, v) :: r else p :: put same x v r

/-- The entries behind 'delete(m, x)'. -/
def del (same : K → K → Bool) (x : K) : List (K × Value) → List (K × Value)
  | [] => []
  | p :: r => if same x p.1 then r else p :: del same x r

/-- What a key's type must give. -/
structure KeyTy (kt : TypeId) (enc : K → Value) (same : K → K → Bool) : Prop where
  iff : ∀ a b, same a b = true ↔ a = b
  check : ∀ (e : Bool) (x : K) (w : World), (Instr.checkKey e 10000 kt (enc x)).run Try.prog w = .ok () w
  find : ∀ (x : K) (L : List (K × Value)) (es : List MapEntry) (w : World), es.map (fun e => (e.key, e.val)) = L.map (fun p => (enc p.1, p.2)) → (Instr.findKey kt (enc x) es).run Try.prog w = .ok (seek same x L 0) w
  bits : ∀ x, Instr.sameBits 10000 (enc x) (enc x) = true

theorem asking {kt : TypeId} {enc : K → Value} {same : K → K → Bool} (heq : ∀ a b w, (Op.equal kt (enc a) (enc b)).run Try.prog w = .ok (same a b) w) (x : K) :
    ∀ (L : List (K × Value)) (es : List MapEntry) (w : World) (i : Nat), es.map (fun e => (e.key, e.val)) = L.map (fun p => (enc p.1, p.2)) → (Instr.findAsking kt (enc x) es i).run Try.prog w = .ok (seek same x L i) w := by
  intro L
  induction L with
  | nil => intro es w i h; simp at h; subst h; simp [Instr.findAsking, seek]
  | cons p r ih =>
    intro es w i h
    cases es with
    | nil => simp at h
    | cons e es =>
      simp at h
      obtain ⟨⟨h1, h2⟩, h3⟩ := h
      have h3' : es.map (fun e => (e.key, e.val)) = r.map (fun p => (enc p.1, p.2)) := by simpa using h3
      simp only [Instr.findAsking, Sem.run_bind, h1, heq, Result.andThen_ok, seek]
      by_cases hs : same x p.1 = true
      · simp [hs, h2]
      · simp [hs, ih es w (i + 1) h3']

theorem findKey_struct {kt : TypeId} {enc : K → Value} {same : K → K → Bool} {fs : Array Field} (hu : Try.prog.underlying kt = some (.struct fs)) (heq : ∀ a b w, (Op.equal kt (enc a) (enc b)).run Try.prog w = .ok (same a b) w) (x : K)
    (L : List (K × Value)) (es : List MapEntry) (w : World) (h : es.map (fun e => (e.key, e.val)) = L.map (fun p => (enc p.1, p.2))) : (Instr.findKey kt (enc x) es).run Try.prog w = .ok (seek same x L 0) w := by
  simp only [Instr.findKey, Sem.run_bind, run_underlying hu, Result.andThen_ok]
  cases L with
  | nil => simp at h; subst h; simp [Instr.findNow, seek]
  | cons p r =>
    cases es with
    | nil => simp at h
    | cons e es =>
      have hn : Instr.findNow (.struct fs) (enc x) (e :: es) 0 = none := by simp [Instr.findNow, Instr.sameNow]
      simp only [hn]
      exact asking heq x _ _ w 0 h

end

theorem keyTy134 : KeyTy 134 kv Key.same := ⟨same_iff, fun e x w => check134 x e w, fun x L es w h => findKey_struct fields134 equal134 x L es w h, bits134⟩

end Go.Proofs.Qxb6605676a.Mp
