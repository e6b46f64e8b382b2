import Derived.Test.Qxb6605676aKz25
import Derived.Test.Qxb6605676aKz14
namespace Go.Proofs.Qxb6605676a.Kz
set_option linter.unusedVariables false
set_option linter.unusedSimpArgs false
open Go.RowKit Go.Proofs.Qxb6605676a.Mp Go.Proofs.Qxb6605676a.Tm Go.Proofs.Qxb6605676a.En
open Go.ChangeMaps (setBlock heap_setBlock_same)

/-- The loops of a text, in their order. -/
def loopsOf : Code → List Code
  | .loop c => [c]
  | .seq a b => loopsOf a ++ loopsOf b
  | .block _ c => loopsOf c
  | .scope c => loopsOf c
  | .cond _ a b => loopsOf a ++ loopsOf b
  | _ => []
noncomputable def body2 : Code := ((loopsOf (Try.f16.body.getD .skip))[1]?).getD .skip
noncomputable def body3 : Code := ((loopsOf (Try.f16.body.getD .skip))[2]?).getD .skip
noncomputable def body4 : Code := ((loopsOf (Try.f16.body.getD .skip))[3]?).getD .skip

/-- The key state that a round has copied into a block of its own. -/
structure KsAt (W : World) (kq : Nat) (q : ZK) : Prop where
  row : W.rangeAt kq 0 (ksCells q)
  lt : kq < W.heap.size
theorem KsAt.below {W W' : World} {kq : Nat} {q : ZK} (h : KsAt W kq q) (hb : Below W.heap.size W W') : KsAt W' kq q :=
  ⟨range_belowB h.row hb h.lt, Nat.lt_of_lt_of_le h.lt hb.size⟩
theorem KsAt.turn {W W' : World} {kq b : Nat} {q : ZK} {κ : Type} {enc : κ → Value} {L : List (κ × Value)} (h : KsAt W kq q) (hm : MapIs W b enc L) (hg : W.grownBy W' (some b)) : KsAt W' kq q :=
  ⟨fun j v hv => cell_turn hm hg (h.row j v hv), Nat.lt_of_lt_of_le h.lt hg.size⟩

theorem store_ex {κ : Type} {enc : κ → Value} {same : κ → κ → Bool} {kt : TypeId} {W : World} {b : Nat} {L : List (κ × Value)} (h : MapIs W b enc L) (KT : KeyTy kt enc same) {mt et : TypeId} (ht : Try.prog.underlying mt = some (.map kt et)) (x : κ) (v : Value) :
    ∃ W3, (Instr.mapUpdate mt (.map (some b)) (enc x) v).run Try.prog W = .ok () W3 ∧ W.grownBy W3 (some b) ∧ MapIs W3 b enc (put same x v L) := by
  obtain ⟨o, h1, h2⟩ := h.store KT ht x v
  exact ⟨_, h1, setBlock_grown W b o, h2⟩

/-- What the statement that makes an alarm reads. -/
structure S22 (mb yb kq : Nat) (p lv : Int) (q : ZK) (W : World) : Prop where
  e2 : W.cell? ⟨mb + 5, 2, none⟩ = some (.map (some mb))
  y0 : W.cell? ⟨yb, 0, none⟩ = some (.int .i64 p)
  y1 : W.cell? ⟨yb, 1, none⟩ = some (.int .i64 lv)
  y2 : W.cell? ⟨yb, 2, none⟩ = some (.string q.sensor)
  k4 : W.cell? ⟨kq, 4, none⟩ = some (.string q.state)
  k5 : W.cell? ⟨kq, 5, none⟩ = some (.int .u64 (q.since % 1000000000))
  k6 : W.cell? ⟨kq, 6, none⟩ = some (.int .i64 (q.since / 1000000000))
  k7 : W.cell? ⟨kq, 7, none⟩ = some (.pointer none)
  k8 : W.cell? ⟨kq, 8, none⟩ = some (.int .u64 (q.lts % 1000000000))
  k9 : W.cell? ⟨kq, 9, none⟩ = some (.int .i64 (q.lts / 1000000000))
  k10 : W.cell? ⟨kq, 10, none⟩ = some (.pointer none)
  k11 : W.cell? ⟨kq, 11, none⟩ = some (.string q.sensor)
  k12 : W.cell? ⟨kq, 12, none⟩ = some (.string q.metric)
  k13 : W.cell? ⟨kq, 13, none⟩ = some (.float .f64 q.val)
  k14 : W.cell? ⟨kq, 14, none⟩ = some (.bool q.cl)
  k15 : W.cell? ⟨kq, 15, none⟩ = some (.int .u64 (q.cs % 1000000000))
  k16 : W.cell? ⟨kq, 16, none⟩ = some (.int .i64 (q.cs / 1000000000))
  k17 : W.cell? ⟨kq, 17, none⟩ = some (.pointer none)
theorem S22.kept {mb yb kq : Nat} {p lv : Int} {q : ZK} {W W' : World} (h : S22 mb yb kq p lv q W) (hc : ∀ a v, W.cell? a = some v → W'.cell? a = some v) : S22 mb yb kq p lv q W' :=
  ⟨hc _ _ h.e2, hc _ _ h.y0, hc _ _ h.y1, hc _ _ h.y2, hc _ _ h.k4, hc _ _ h.k5, hc _ _ h.k6, hc _ _ h.k7, hc _ _ h.k8, hc _ _ h.k9, hc _ _ h.k10, hc _ _ h.k11, hc _ _ h.k12, hc _ _ h.k13, hc _ _ h.k14, hc _ _ h.k15, hc _ _ h.k16, hc _ _ h.k17⟩

theorem lf_new (W : World) (q : ZK) : ∀ j u, (lfCells q)[j]? = some u → (W.alloc (.cells (lfCells q).toArray 107)).cell? ((⟨W.heap.size, 0, none⟩ : Addr).add j) = some u := by
  intro j u hu
  have e : (⟨W.heap.size, 0, none⟩ : Addr).add j = ⟨W.heap.size, j, none⟩ := by simp [Addr.add]; intro h; exact h.symm
  rw [e]
  unfold World.cell?
  rw [heap_alloc_new]
  simpa using hu

section
variable {mb rb pb lr bx base kb sb tb : Nat} {rs : Array Value} {R : List RuleD} {K : List ZK} {S : List ZS} {T' : List ZR} {XS : List ZS} {w0 : World} {sa ta : Option Addr} {XA : List (ZK × Nat)} {XC XL U : List ZK} {wr w2 : World} {l l' : Value}

theorem open2 (rel : Rel3 w0 sa ta mb rb pb lr bx base kb sb tb rs R K S T' XS XA XC XL U wr l) (q : ZK) :
    ∃ W2, Hid (W2 = wr.alloc (.cells (ksCells q).toArray 107)) ∧ Rel3 w0 sa ta mb rb pb lr bx base kb sb tb rs R K S T' XS XA XC XL U W2 l ∧ KsAt W2 wr.heap.size q :=
  ⟨_, rfl, rel.below ((Below.refl _ _).alloc (Nat.le_refl _) _), fun j v hv => ksNew wr q (0 + j) v (by simpa using hv), by simp⟩

/-- What the round makes of the relation. -/
def Next2 (w0 : World) (sa ta : Option Addr) (mb rb pb lr bx base kb sb tb : Nat) (rs : Array Value) (R : List RuleD) (K : List ZK) (S : List ZS) (T' : List ZR) (XS : List ZS) (XA : List (ZK × Nat)) (XC XL U : List ZK) (q : ZK) (l : Value) (W : World) : Prop :=
  ∃ ab, Rel3 w0 sa ta mb rb pb lr bx base kb sb tb rs R K S T' XS (XA ++ [(q, ab)]) (XC ++ [q]) (XL ++ [q]) (U ++ (if unm R q then [q] else [])) W l

theorem get_places (R : List RuleD) (n : ByteArray) : Mp.get sameS n (plcs R 0 []) = if plc n R 0 (-1) < 0 then none else some (.int .i64 (plc n R 0 (-1))) := get_plcs n R 0 (-1) [] rfl

theorem mtc_np {q : ZK} (h : plc q.rule R 0 (-1) < 0) : mtc R q.rule q.metric q.sev = (-1, -1) := by unfold mtc; simp only; rw [if_pos h]
theorem mtc_om {q : ZK} {p : Nat} {r : RuleD} (hp : plc q.rule R 0 (-1) = p) (hr : R[p]? = some r) (hm : (r.metric.toList == q.metric.toList) = false) : mtc R q.rule q.metric q.sev = (-1, -1) := by
  have e : R.getD (p : Int).toNat ⟨⟨#[]⟩, ⟨#[]⟩, []⟩ = r := by simp [List.getD, hr]
  unfold mtc; simp only; rw [hp, if_neg (by omega), e, hm]; rfl
theorem mtc_nl {q : ZK} {p : Nat} {r : RuleD} (hp : plc q.rule R 0 (-1) = p) (hr : R[p]? = some r) (hm : (r.metric.toList == q.metric.toList) = true) (hl : lev q.sev r.sevs 0 < 0) : mtc R q.rule q.metric q.sev = (-1, -1) := by
  have e : R.getD (p : Int).toNat ⟨⟨#[]⟩, ⟨#[]⟩, []⟩ = r := by simp [List.getD, hr]
  unfold mtc; simp only; rw [hp, if_neg (by omega), e, hm, if_pos rfl, if_pos hl]
theorem mtc_tk {q : ZK} {p lv : Nat} {r : RuleD} (hp : plc q.rule R 0 (-1) = p) (hr : R[p]? = some r) (hm : (r.metric.toList == q.metric.toList) = true) (hl : lev q.sev r.sevs 0 = lv) : mtc R q.rule q.metric q.sev = ((p : Int), (lv : Int)) := by
  have e : R.getD (p : Int).toNat ⟨⟨#[]⟩, ⟨#[]⟩, []⟩ = r := by simp [List.getD, hr]
  unfold mtc; simp only; rw [hp, if_neg (by omega), e, hm, if_pos rfl, hl, if_neg (by omega)]

/-- A key that is left: the row has grown by it. -/
theorem Rel3.left_end (h : Rel3 w0 sa ta mb rb pb lr bx base kb sb tb rs R K S T' XS XA XC XL U wr l) {q : ZK} (hm : mtc R q.rule q.metric q.sev = (-1, -1)) (hok : (q.state.toList == okB.toList) = true) (hg : wr.grownBy w2 l.ownBlock) (ho : w2.ownsRow base 107 21 l' (U.length + 1) (U.flatMap lfCells ++ lfCells q)) :
    Next2 w0 sa ta mb rb pb lr bx base kb sb tb rs R K S T' XS XA XC XL U q l' w2 := by
  refine ⟨0, ?_⟩
  have hu : unm R q = true := by simp [unm, hm]
  rw [if_pos hu]
  refine (((h.leave q hg ho).skipA q ?_).skipC q ?_).skipL q ?_
  · unfold keyA; rw [if_pos hok]
  · unfold keyC; rw [hm]; split <;> simp
  · unfold keyL; rw [if_pos hok]
/-- The same where its last reading has been kept already. -/
theorem Rel3.left_end' {q : ZK} (h : Rel3 w0 sa ta mb rb pb lr bx base kb sb tb rs R K S T' XS XA XC (XL ++ [q]) U wr l) (hm : mtc R q.rule q.metric q.sev = (-1, -1)) (hg : wr.grownBy w2 l.ownBlock) (ho : w2.ownsRow base 107 21 l' (U.length + 1) (U.flatMap lfCells ++ lfCells q)) :
    Next2 w0 sa ta mb rb pb lr bx base kb sb tb rs R K S T' XS XA XC XL U q l' w2 := by
  refine ⟨0, ?_⟩
  have hu : unm R q = true := by simp [unm, hm]
  rw [if_pos hu]
  refine ((h.leave q hg ho).skipA q ?_).skipC q ?_
  · unfold keyA; rw [hm]; split <;> simp
  · unfold keyC; rw [hm]; split <;> simp
/-- A key that is taken. -/
theorem take_end {q : ZK} {ab p lv : Nat} (h : Rel3 w0 sa ta mb rb pb lr bx base kb sb tb rs R K S T' XS (XA ++ [(q, ab)]) (XC ++ [q]) (XL ++ [q]) U wr l) (hm : mtc R q.rule q.metric q.sev = ((p : Int), (lv : Int))) :
    Next2 w0 sa ta mb rb pb lr bx base kb sb tb rs R K S T' XS XA XC XL U q l wr := by
  refine ⟨ab, ?_⟩
  have hu : unm R q = false := by simp [unm, hm]
  rw [hu]
  simpa using h
theorem keyA_tk {q : ZK} {p lv : Nat} (hm : mtc R q.rule q.metric q.sev = ((p : Int), (lv : Int))) (hok : (q.state.toList == [79, 75]) = false) : keyA R q = some ⟨p, lv, q.sensor⟩ := by
  unfold keyA; rw [okB_list, hok, hm, if_neg (by simp), if_neg (by simp)]
theorem keyA_ok {q : ZK} (hok : (q.state.toList == [79, 75]) = true) : keyA R q = none := by
  unfold keyA; rw [okB_list, if_pos hok]
theorem keyL_ok {q : ZK} (hok : (q.state.toList == [79, 75]) = true) : keyL q = none := by
  unfold keyL; rw [okB_list, if_pos hok]
theorem keyC_tk {q : ZK} {p lv : Nat} (hm : mtc R q.rule q.metric q.sev = ((p : Int), (lv : Int))) (hc : ¬ q.cool = 0) : keyC R q = some ⟨p, lv, q.sensor⟩ := by
  unfold keyC; rw [if_neg hc, hm, if_neg (by simp)]
theorem keyC_0 {q : ZK} (hc : q.cool = 0) : keyC R q = none := by
  unfold keyC; rw [if_pos hc]
theorem below_drew {W : World} : Below W.heap.size W W.drew := ⟨rfl, rfl, rfl, Nat.le_refl _, fun _ _ => rfl⟩
end
end Go.Proofs.Qxb6605676a.Kz
