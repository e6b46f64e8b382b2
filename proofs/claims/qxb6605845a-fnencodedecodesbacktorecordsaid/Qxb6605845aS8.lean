import Derived.Test.Qxb6605845aS7
namespace Go.Proofs.Qxb6605845a.Ec
set_option linter.unusedVariables false
set_option linter.unusedSimpArgs false
open Go.RowKit

/-- A record as plain data (the ids are always none here). -/
structure RecD where
  site : ByteArray
  node : Int
  idSeq : Nat
  parts : List Int
  ticket : Nat
  reads : List (ByteArray × ByteArray)
  writes : List (ByteArray × ByteArray × Option (List UInt8))
  seq : Nat

/-- The reads lie in block b. -/
def ReadsAt (w : World) (b : Nat) (L : List (ByteArray × ByteArray)) : Prop := ∀ j p, L[j]? = some p → w.cell? ⟨b, j * 2, none⟩ = some (.string p.1) ∧ w.cell? ⟨b, j * 2 + 1, none⟩ = some (.string p.2)
/-- The writes lie in block b; what their values lead to lies below B. -/
def WritesAt (w : World) (B b : Nat) (L : List (ByteArray × ByteArray × Option (List UInt8))) : Prop := ∀ j p, L[j]? = some p → w.cell? ⟨b, j * 3, none⟩ = some (.string p.1) ∧ w.cell? ⟨b, j * 3 + 1, none⟩ = some (.string p.2.1) ∧ ∃ v, w.cell? ⟨b, j * 3 + 2, none⟩ = some v ∧ BVal w v p.2.2 ∧ ∀ a n c, v = .slice (some a) n c → a.block < B

theorem ReadsAt.belowB {w w' : World} {b B : Nat} {L : List (ByteArray × ByteArray)} (h : ReadsAt w b L) (hb : Below B w w') (hB : b < B) : ReadsAt w' b L := by
  intro j p hp
  obtain ⟨h1, h2⟩ := h j p hp
  exact ⟨by rw [hb.cell hB]; exact h1, by rw [hb.cell hB]; exact h2⟩

theorem BVal.belowB {w w' : World} {v : Value} {o : Option (List UInt8)} {B : Nat} (h : BVal w v o) (hb : Below B w w') (hB : ∀ a n c, v = .slice (some a) n c → a.block < B) : BVal w' v o := by
  cases h with
  | nil => exact .nil
  | row b L c h => exact .row b _ c (h.belowB hb (hB _ _ _ rfl))
theorem IVal.belowB {w w' : World} {v : Value} {o : List Int} {B : Nat} (h : IVal w v o) (hb : Below B w w') (hB : ∀ a n c, v = .slice (some a) n c → a.block < B) : IVal w' v o := by
  cases h with
  | nil => exact .nil
  | row b L c h => exact .row b _ c (h.belowB hb (hB _ _ _ rfl))

theorem WritesAt.belowB {w w' : World} {b B : Nat} {L : List (ByteArray × ByteArray × Option (List UInt8))} (h : WritesAt w B b L) (hb : Below B w w') (hB : b < B) : WritesAt w' B b L := by
  intro j p hp
  obtain ⟨h1, h2, v, h3, h4, h5⟩ := h j p hp
  exact ⟨by rw [hb.cell hB]; exact h1, by rw [hb.cell hB]; exact h2, v, by rw [hb.cell hB]; exact h3, h4.belowB hb h5, h5⟩

/-- The record r of kind k lies in block rb; all that it leads to lies below B. -/
structure RecAt (w : World) (B rb : Nat) (k : Nat) (pv : Value) (rdb rc wrb wc : Nat) (r : RecD) : Prop where
  c0 : w.cell? ⟨rb, 0, none⟩ = some (.int .u8 k)
  id : IdAt w rb 1 r.site r.node r.idSeq
  c4 : w.cell? ⟨rb, 4, none⟩ = some pv
  parts : IVal w pv r.parts
  partsB : ∀ a n c, pv = .slice (some a) n c → a.block < B
  c5 : w.cell? ⟨rb, 5, none⟩ = some (.int .u64 r.ticket)
  c6 : w.cell? ⟨rb, 6, none⟩ = some (.slice (some ⟨rdb, 0, none⟩) r.reads.length rc)
  reads : ReadsAt w rdb r.reads
  readsB : rdb < B
  c7 : w.cell? ⟨rb, 7, none⟩ = some (.slice (some ⟨wrb, 0, none⟩) r.writes.length wc)
  writes : WritesAt w B wrb r.writes
  writesB : wrb < B
  c8 : w.cell? ⟨rb, 8, none⟩ = some (.int .u64 r.seq)
  c9 : w.cell? ⟨rb, 9, none⟩ = some (.slice none 0 0)
  rbB : rb < B

theorem RecAt.belowB {w w' : World} {B rb k : Nat} {pv : Value} {rdb rc wrb wc : Nat} {r : RecD} (h : RecAt w B rb k pv rdb rc wrb wc r) (hb : Below B w w') : RecAt w' B rb k pv rdb rc wrb wc r :=
  ⟨by rw [hb.cell h.rbB]; exact h.c0, h.id.ap hb h.rbB, by rw [hb.cell h.rbB]; exact h.c4, h.parts.belowB hb h.partsB, h.partsB, by rw [hb.cell h.rbB]; exact h.c5, by rw [hb.cell h.rbB]; exact h.c6, h.reads.belowB hb h.readsB, h.readsB, by rw [hb.cell h.rbB]; exact h.c7, h.writes.belowB hb h.writesB, h.writesB, by rw [hb.cell h.rbB]; exact h.c8, by rw [hb.cell h.rbB]; exact h.c9, h.rbB⟩

/-- What is small enough that no sum overflows. -/
structure RecOk (r : RecD) : Prop where
  site : r.site.size ≤ 1048576
  idSeq : r.idSeq < 2 ^ 64
  parts : (encI r.parts).length ≤ 16777216
  partsL : r.parts.length ≤ 1048576
  ticket : r.ticket < 2 ^ 64
  reads : (encR r.reads).length ≤ 134217728
  readsL : r.reads.length ≤ 1048576
  writes : (encW r.writes).length ≤ 134217728
  writesL : r.writes.length ≤ 1048576
  seq : r.seq < 2 ^ 64

/-- The encoding behind version and kind. -/
def encTail (k : Nat) (r : RecD) : List UInt8 :=
  if k = 6 then Lib.uvarint r.seq else if k = 7 then Lib.uvarint 0 else
  encD r.site r.node r.idSeq ++ (if k = 3 ∨ k = 5 then [] else
    encI r.parts ++ (if k = 4 then [] else (if k = 1 then Lib.uvarint r.ticket else []) ++ (encR r.reads ++ encW r.writes)))
def enc (k : Nat) (r : RecD) : List UInt8 := 2 :: k.toUInt8 :: encTail k r

end Go.Proofs.Qxb6605845a.Ec
