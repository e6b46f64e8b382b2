import Derived.Test.Qxb6605845aS22
namespace Go.Proofs.Qxb6605845a.Ec
set_option linter.unusedVariables false
set_option linter.unusedSimpArgs false
open Go.RowKit

/-- At place m of bs begins rest, and rest goes to the end. -/
structure At (bs : List UInt8) (m : Nat) (rest : List UInt8) : Prop where
  drop : bs.drop m = rest
  len : m + rest.length = bs.length

theorem At.step {bs pre post : List UInt8} {m : Nat} (h : At bs m (pre ++ post)) : At bs (m + pre.length) post :=
  ⟨(drop_app h.drop).1, by have := h.len; rw [List.length_append] at this; omega⟩
theorem At.fin {bs : List UInt8} {m : Nat} (h : At bs m []) : m = bs.length := by have := h.len; simpa using this
theorem At.enc (k : Nat) (r : RecD) : At (enc k r) 2 (encTail k r) := ⟨rfl, by simp [Ec.enc]; omega⟩

theorem cat_drop {α} (f : α → List UInt8) (L : List α) (k : Nat) (h : k < L.length) : cat f (L.drop k) = f L[k] ++ cat f (L.drop (k + 1)) := by
  rw [List.drop_eq_getElem_cons h, cat_cons]
theorem cat_end {α} (f : α → List UInt8) (L : List α) (k : Nat) (h : L.length ≤ k) : cat f (L.drop k) = [] := by rw [List.drop_eq_nil_of_le h]; rfl

theorem recAt_of {X : World} {B rb k : Nat} {r : RecD} {pv : Value} {rdb rc wrb wc : Nat}
    (hblk : X.heap[rb]? = some (.cells #[.int .u8 k, .string r.site, .int .i64 r.node, .int .u64 r.idSeq, pv, .int .u64 r.ticket, .slice (some ⟨rdb, 0, none⟩) r.reads.length rc, .slice (some ⟨wrb, 0, none⟩) r.writes.length wc, .int .u64 r.seq, .slice none 0 0] 70))
    (hrb : rb < B) (parts : IVal X pv r.parts) (partsB : ∀ a n c, pv = .slice (some a) n c → a.block < B) (reads : ReadsAt X rdb r.reads) (readsB : rdb < B) (writes : WritesAt X B wrb r.writes) (writesB : wrb < B) : RecAt X B rb k pv rdb rc wrb wc r where
  c0 := by simp [World.cell?, hblk]
  id := ⟨by simp [World.cell?, hblk], by simp [World.cell?, hblk], by simp [World.cell?, hblk]⟩
  c4 := by simp [World.cell?, hblk]
  parts := parts
  partsB := partsB
  c5 := by simp [World.cell?, hblk]
  c6 := by simp [World.cell?, hblk]
  reads := reads
  readsB := readsB
  c7 := by simp [World.cell?, hblk]
  writes := writes
  writesB := writesB
  c8 := by simp [World.cell?, hblk]
  c9 := by simp [World.cell?, hblk]
  rbB := hrb

theorem bytes_below {W W' : World} {b : Nat} {bs : List UInt8} (h : BytesAt W b 0 bs) (hb : Below W.heap.size W W') (j : Nat) (x : UInt8) (hx : bs[j]? = some x) : W'.cell? ⟨b, j, none⟩ = some (.int .u8 x.toNat) := by simpa using (h.below hb) j x hx

theorem bytes_at {W : World} {b : Nat} {bs : List UInt8} (h : BytesAt W b 0 bs) (j : Nat) (x : UInt8) (hx : bs[j]? = some x) : W.cell? ⟨b, j, none⟩ = some (.int .u8 x.toNat) := by simpa using h j x hx
theorem cell_below {W W' : World} {a : Addr} {v : Value} (hb : Below W.heap.size W W') (h : W.cell? a = some v) : W'.cell? a = some v := by
  rw [hb.cell (World.block_lt_of_cell? W _ h)]; exact h
theorem bval_drew {w : World} {v : Value} {x : Option (List UInt8)} (h : BVal w v x) : BVal w.drew v x := by
  cases h with
  | nil => exact .nil
  | row b L c h => exact .row b _ c h
theorem writes_drew {w : World} {B b : Nat} {L : List (ByteArray × ByteArray × Option (List UInt8))} (h : WritesAt w B b L) : WritesAt w.drew B b L := by
  intro j p hp
  obtain ⟨h1, h2, v, h3, h4, h5⟩ := h j p hp
  exact ⟨h1, h2, v, h3, bval_drew h4, h5⟩
theorem IVal.row_of {w : World} {pa : Option Addr} {pc k : Nat} {P : List Int} (h : IVal w (.slice pa P.length pc) P) (hk : k < P.length) : ∃ b, pa = some ⟨b, 0, none⟩ ∧ IntsAt w b 0 P := by
  generalize hv : Value.slice pa P.length pc = v at h
  cases h with
  | nil => simp at hk
  | row b L c h =>
    injection hv with h1 _ _
    exact ⟨b, h1, h⟩

theorem BNew.lt {w : World} {lo : Nat} {v : Value} {x : Option (List UInt8)} (h : BNew w lo v x) : ∀ a n c, v = .slice (some a) n c → a.block < w.heap.size := fun a n c e => (h.2 a n c e).2
end Go.Proofs.Qxb6605845a.Ec
