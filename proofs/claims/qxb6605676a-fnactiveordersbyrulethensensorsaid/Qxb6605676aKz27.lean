import Derived.Test.Qxb6605676aKz26
namespace Go.Proofs.Qxb6605676a.Kz
set_option linter.unusedVariables false
set_option linter.unusedSimpArgs false
open Go.RowKit Go.Proofs.Qxb6605676a.Mp Go.Proofs.Qxb6605676a.Tm Go.Proofs.Qxb6605676a.En
open Go.ChangeMaps (setBlock heap_setBlock_same)

theorem ssOne (q : ZS) : (ssCells q).toArray.all (·.oneCell') = true := by simp [ssCells, Value.oneCell']
theorem tnOne (q : ZR) : (tnCells q).toArray.all (·.oneCell') = true := by simp [tnCells, Value.oneCell']
theorem newRow (W : World) (cs : List Value) (ty : TypeId) : (W.alloc (.cells cs.toArray ty)).rangeAt W.heap.size 0 cs := by
  intro j v hv
  unfold World.cell?
  simp only [Nat.zero_add]
  rw [heap_alloc_new]
  simpa using hv
/-- A transition that ends, its reading told. -/
def tcs (q : ZR) (rd : List Value) : List Value := [.string q.rule, .string q.sev, .string ⟨#[82, 69, 83, 79, 76, 86, 69, 68]⟩] ++ rd ++ [.int .u64 (q.raised % 1000000000), .int .i64 (q.raised / 1000000000), .pointer none, .bool false]
theorem tcsOne (q : ZR) (rd : List Value) (h : rd.all (·.oneCell') = true) : ∀ u ∈ tcs q rd, u.oneCell' = true := by
  have h2 : (tcs q rd).all (·.oneCell') = true := by
    unfold tcs
    rw [List.all_append, List.all_append, h]
    simp [Value.oneCell']
  intro u hu
  exact List.all_eq_true.1 h2 u hu
theorem te_new (W : World) (cs : List Value) : ∀ j u, cs[j]? = some u → (W.alloc (.cells cs.toArray 74)).cell? ((⟨W.heap.size, 0, none⟩ : Addr).add j) = some u := by
  intro j u hu
  have e : (⟨W.heap.size, 0, none⟩ : Addr).add j = ⟨W.heap.size, j, none⟩ := by simp [Addr.add]; intro h; exact h.symm
  rw [e]
  unfold World.cell?
  rw [heap_alloc_new]
  simpa using hu

section
variable {mb rb pb lr bx base kb sb tb : Nat} {rs : Array Value} {R : List RuleD} {K : List ZK} {S : List ZS} {T' : List ZR} {w0 : World} {sa ta : Option Addr} {XS : List ZS} {XA : List (ZK × Nat)} {XC XL U : List ZK} {wr : World} {l : Value}

theorem open3 (rel : Rel3 w0 sa ta mb rb pb lr bx base kb sb tb rs R K S T' XS XA XC XL U wr l) (q : ZS) :
    ∃ W2, Hid (W2 = wr.alloc (.cells (ssCells q).toArray 139)) ∧ Rel3 w0 sa ta mb rb pb lr bx base kb sb tb rs R K S T' XS XA XC XL U W2 l ∧ W2.rangeAt wr.heap.size 0 (ssCells q) ∧ wr.heap.size < W2.heap.size :=
  ⟨_, rfl, rel.below ((Below.refl _ _).alloc (Nat.le_refl _) _), newRow wr (ssCells q) 139, by simp⟩
theorem open4 (rel : Rel3 w0 sa ta mb rb pb lr bx base kb sb tb rs R K S T' XS XA XC XL U wr l) (q : ZR) {lE : Value} {n : Nat} {xs : List Value} (ho : wr.ownsRow base 74 13 lE n xs) :
    ∃ W2, Hid (W2 = wr.alloc (.cells (tnCells q).toArray 74)) ∧ Rel3 w0 sa ta mb rb pb lr bx base kb sb tb rs R K S T' XS XA XC XL U W2 l ∧ (W2.rangeAt wr.heap.size 0 (tnCells q) ∧ wr.heap.size < W2.heap.size) ∧ W2.ownsRow base 74 13 lE n xs :=
  ⟨_, rfl, rel.below ((Below.refl _ _).alloc (Nat.le_refl _) _), ⟨newRow wr (tnCells q) 74, by simp⟩, ho.alloc _⟩
end
end Go.Proofs.Qxb6605676a.Kz
