import Derived.Test.Qxb6605845aS20
namespace Go.Proofs.Qxb6605845a.Ec
set_option linter.unusedVariables false
set_option linter.unusedSimpArgs false
open Go.RowKit

theorem SArg.below {w w' : World} {ao : Option Addr} {L : List ByteArray} (h : SArg w ao L) (hb : Below w.heap.size w w') : SArg w' ao L :=
  h.imp id fun ⟨b, o, h1, h2⟩ => ⟨b, o, h1, h2.below hb⟩
theorem IArg.below {w w' : World} {ao : Option Addr} {L : List Int} (h : IArg w ao L) (hb : Below w.heap.size w w') : IArg w' ao L :=
  h.imp id fun ⟨b, o, h1, h2⟩ => ⟨b, o, h1, h2.below hb⟩
theorem VArg.below {w w' : World} {ao : Option Addr} {L : List (Option (List UInt8))} (h : VArg w ao L) (hb : Below w.heap.size w w') : VArg w' ao L :=
  h.imp id fun ⟨b, o, h1, h2⟩ => ⟨b, o, h1, h2.below hb⟩
theorem NArg.below {w w' : World} {ao : Option Addr} {L : List (Option (List UInt8))} (h : NArg w ao L) (hb : Below w.heap.size w w') : NArg w' ao L :=
  h.imp id fun ⟨b, o, h1, h2⟩ => ⟨b, o, h1, h2.below hb⟩

/-! ### how long the encoding is at most -/
theorem uv_le : ∀ (n x : Nat), x ≤ n → (Lib.uvarint x).length ≤ x + 1 := by
  intro n
  induction n with
  | zero => intro x hx; rw [Lib.uvarint_small (by omega)]; simp
  | succ n ih =>
    intro x hx
    by_cases h : x < 128
    · rw [Lib.uvarint_small h]; simp
    · rw [Lib.uvarint_big (by omega), List.length_cons]
      have := ih (x / 128) (by omega)
      omega
theorem encS_le (s : ByteArray) : (encS s).length ≤ 2 * s.size + 1 := by
  rw [encS_len]
  have := uv_le s.size s.size (Nat.le_refl _)
  omega
theorem encB_le (o : Option (List UInt8)) : (encB o).length ≤ 2 * bsz o + 2 := by
  cases o with
  | none => simp [encB, bsz]
  | some l =>
    simp only [encB, bsz, List.length_cons, List.length_append]
    have := uv_le l.length l.length (Nat.le_refl _)
    omega
theorem sz_cons {α} (f : α → Nat) (x : α) (L : List α) : sz f (x :: L) = f x + sz f L := by simp [sz]
theorem catI_le : ∀ L : List Int, (cat uz L).length ≤ 10 * L.length := by
  intro L
  induction L with
  | nil => simp [cat]
  | cons z L ih =>
    rw [cat_cons, List.length_append, List.length_cons]
    have := Lib.uvarint_length64 (x := u64 z) (by have := u64_lt z; omega)
    unfold uz at *
    omega
theorem catP_le : ∀ (A B : List ByteArray), (cat encP (A.zip B)).length ≤ 2 * (sz ByteArray.size A + sz ByteArray.size B) + 2 * A.length := by
  intro A
  induction A with
  | nil => intro B; simp [cat]
  | cons a A ih =>
    intro B
    cases B with
    | nil => simp [cat]
    | cons b B =>
      rw [List.zip_cons_cons, cat_cons, List.length_append, sz_cons, sz_cons, List.length_cons]
      have h1 := ih B
      have h2 := encS_le a
      have h3 := encS_le b
      have h4 : (encP (a, b)).length = (encS a).length + (encS b).length := by simp [encP]
      omega
theorem catQ_le : ∀ (A B : List ByteArray) (C : List (Option (List UInt8))), (cat encQ (A.zip (B.zip C))).length ≤ 2 * (sz ByteArray.size A + sz ByteArray.size B + sz bsz C) + 4 * A.length := by
  intro A
  induction A with
  | nil => intro B C; simp [cat]
  | cons a A ih =>
    intro B C
    cases B with
    | nil => simp [cat]
    | cons b B =>
      cases C with
      | nil => simp [cat]
      | cons c C =>
        rw [List.zip_cons_cons, List.zip_cons_cons, cat_cons, List.length_append, sz_cons, sz_cons, sz_cons, List.length_cons]
        have h1 := ih B C
        have h2 := encS_le a
        have h3 := encS_le b
        have h5 := encB_le c
        have h4 : (encQ (a, b, c)).length = (encS a).length + (encS b).length + (encB c).length := by simp [encQ]; omega
        omega

/-- The record that the law builds. -/
def theRec (site : ByteArray) (node : Int) (idSeq : Nat) (P : List Int) (ticket : Nat) (RT RK WT WK : List ByteArray) (WV : List (Option (List UInt8))) (seq : Nat) : RecD :=
  { site := site, node := node, idSeq := idSeq, parts := P, ticket := ticket, reads := RT.zip RK, writes := WT.zip (WK.zip WV), seq := seq }

theorem theRec_ok {site : ByteArray} {node : Int} {idSeq : Nat} {P : List Int} {ticket : Nat} {RT RK WT WK : List ByteArray} {WV : List (Option (List UInt8))} {seq : Nat}
    (h0 : site.size ≤ 1048576) (hp : P.length ≤ 65536) (h1 : 16 * RT.length + sz ByteArray.size RT ≤ 1048576) (h2 : 16 * RK.length + sz ByteArray.size RK ≤ 1048576) (h3 : 16 * WT.length + sz ByteArray.size WT ≤ 1048576) (h4 : 16 * WK.length + sz ByteArray.size WK ≤ 1048576) (h5 : 24 * WV.length + sz bsz WV ≤ 1048576)
    (i1 : idSeq < 2 ^ 64) (i2 : ticket < 2 ^ 64) (i3 : seq < 2 ^ 64) : RecOk (theRec site node idSeq P ticket RT RK WT WK WV seq) := by
  have c1 := catI_le P
  have c2 := catP_le RT RK
  have c3 := catQ_le WT WK WV
  have z1 : (RT.zip RK).length ≤ RT.length := by rw [List.length_zip]; omega
  have z2 : (WT.zip (WK.zip WV)).length ≤ WT.length := by rw [List.length_zip]; omega
  have u1 := uv_le P.length P.length (Nat.le_refl _)
  have u2 := uv_le (RT.zip RK).length (RT.zip RK).length (Nat.le_refl _)
  have u3 := uv_le (WT.zip (WK.zip WV)).length (WT.zip (WK.zip WV)).length (Nat.le_refl _)
  refine ⟨h0, i1, ?_, ?_, i2, ?_, ?_, ?_, ?_, i3⟩ <;> simp only [theRec, encI, encR, encW, List.length_append] <;> omega

/-! ### the rows of reads and writes as they are filled -/
theorem below_setCells {B : Nat} {a w : World} {b : Nat} (hp : B ≤ b) : ∀ (vs : List Value) (o : Nat) (w : World), Below B a w → Below B a (w.setCells b o vs) := by
  intro vs
  induction vs with
  | nil => intro o w h; exact h
  | cons v vs ih => intro o w h; exact ih (o + 1) _ (h.setCell hp v)
theorem size_setCells {b : Nat} : ∀ (vs : List Value) (o : Nat) (w : World), (w.setCells b o vs).heap.size = w.heap.size := by
  intro vs
  induction vs with
  | nil => intro o w; rfl
  | cons v vs ih => intro o w; exact (ih (o + 1) _).trans (by simp)

theorem ReadsAt.snoc {W : World} {b k : Nat} {L : List (ByteArray × ByteArray)} {t q : ByteArray} (h : ReadsAt W b (L.take k)) (hk : L[k]? = some (t, q)) (ht : W.there b (k * 2) 2) : ReadsAt (W.setCells b (k * 2) [.string t, .string q]) b (L.take (k + 1)) := by
  intro j p hp
  have hj : j < (L.take (k + 1)).length := (List.getElem?_eq_some_iff.1 hp).1
  have hj2 : j < k + 1 := by simp at hj; omega
  rw [List.getElem?_take_of_lt hj2] at hp
  by_cases e : j = k
  · subst e
    rw [hk] at hp
    obtain rfl := Option.some.inj hp
    have hr := World.rangeAt_setCells_same W b (j * 2) [.string t, .string q] ht
    exact ⟨by simpa using hr 0 _ rfl, by simpa using hr 1 _ rfl⟩
  · obtain ⟨h1, h2⟩ := h j p (by rw [List.getElem?_take_of_lt (by omega)]; exact hp)
    refine ⟨?_, ?_⟩
    · rw [World.cell?_setCells_out b _ _ W _ (fun _ _ => .inl (by simp; omega))]; exact h1
    · rw [World.cell?_setCells_out b _ _ W _ (fun _ _ => .inl (by simp; omega))]; exact h2

theorem BVal.setCells {w : World} {v : Value} {x : Option (List UInt8)} {b o : Nat} {vs : List Value} (h : BVal w v x) (hb : ∀ a n c, v = .slice (some a) n c → a.block < b) : BVal (w.setCells b o vs) v x := by
  cases h with
  | nil => exact .nil
  | row g L c hL =>
    have hg := hb _ _ _ rfl
    simp only at hg
    refine .row g _ c ?_
    intro j z hz
    rw [World.cell?_setCells_out b vs o w _ (fun e _ => by simp at e; omega)]
    exact hL j z hz

/-- The writes that have been laid down in block b; what they lead to lies below b. -/
theorem WritesAt.snoc {W : World} {b k : Nat} {L : List (ByteArray × ByteArray × Option (List UInt8))} {t q : ByteArray} {x : Option (List UInt8)} {v : Value} (h : WritesAt W b b (L.take k)) (hk : L[k]? = some (t, q, x)) (hv : BVal W v x) (hvb : ∀ a n c, v = .slice (some a) n c → a.block < b) (ht : W.there b (k * 3) 3) : WritesAt (W.setCells b (k * 3) [.string t, .string q, v]) b b (L.take (k + 1)) := by
  intro j p hp
  have hj : j < (L.take (k + 1)).length := (List.getElem?_eq_some_iff.1 hp).1
  have hj2 : j < k + 1 := by simp at hj; omega
  rw [List.getElem?_take_of_lt hj2] at hp
  by_cases e : j = k
  · subst e
    rw [hk] at hp
    obtain rfl := Option.some.inj hp
    have hr := World.rangeAt_setCells_same W b (j * 3) [.string t, .string q, v] ht
    exact ⟨by simpa using hr 0 _ rfl, by simpa using hr 1 _ rfl, v, by simpa using hr 2 _ rfl, hv.setCells hvb, hvb⟩
  · obtain ⟨h1, h2, u, h3, h4, h5⟩ := h j p (by rw [List.getElem?_take_of_lt (by omega)]; exact hp)
    refine ⟨?_, ?_, u, ?_, h4.setCells h5, h5⟩
    · rw [World.cell?_setCells_out b _ _ W _ (fun _ _ => .inl (by simp; omega))]; exact h1
    · rw [World.cell?_setCells_out b _ _ W _ (fun _ _ => .inl (by simp; omega))]; exact h2
    · rw [World.cell?_setCells_out b _ _ W _ (fun _ _ => .inl (by simp; omega))]; exact h3

theorem WritesAt.mono {w : World} {B B' b : Nat} {L : List (ByteArray × ByteArray × Option (List UInt8))} (h : WritesAt w B b L) (hB : B ≤ B') : WritesAt w B' b L := by
  intro j p hp
  obtain ⟨h1, h2, v, h3, h4, h5⟩ := h j p hp
  exact ⟨h1, h2, v, h3, h4, fun a n c e => Nat.lt_of_lt_of_le (h5 a n c e) hB⟩

theorem there_mono {W : World} {b o n o' n' : Nat} (h : W.there b o n) (h1 : o ≤ o') (h2 : o' + n' ≤ o + n) : W.there b o' n' := by
  intro j hj
  have := h (o' - o + j) (by omega)
  rwa [show o + (o' - o + j) = o' + j by omega] at this

theorem zip2 {RT RK : List ByteArray} {j : Nat} {t q : ByteArray} (h : (RT.zip RK)[j]? = some (t, q)) : RT[j]? = some t ∧ RK[j]? = some q := by
  rw [List.getElem?_zip_eq_some] at h; exact h
theorem zip3 {WT WK : List ByteArray} {WV : List (Option (List UInt8))} {j : Nat} {t q : ByteArray} {x : Option (List UInt8)} (h : (WT.zip (WK.zip WV))[j]? = some (t, q, x)) : WT[j]? = some t ∧ WK[j]? = some q ∧ WV[j]? = some x := by
  rw [List.getElem?_zip_eq_some] at h
  have h2 := h.2
  rw [List.getElem?_zip_eq_some] at h2
  exact ⟨h.1, h2.1, h2.2⟩
end Go.Proofs.Qxb6605845a.Ec
