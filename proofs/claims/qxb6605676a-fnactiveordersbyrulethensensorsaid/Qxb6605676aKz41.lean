import Derived.Test.Qxb6605676aKz40
import Derived.Test.Qxb6605676aKz26
namespace Go.Proofs.Qxb6605676a.Kz
set_option linter.unusedVariables false
set_option linter.unusedSimpArgs false
open Go.RowKit Go.Proofs.Qxb6605676a.Mp Go.Proofs.Qxb6605676a.Tm Go.Proofs.Qxb6605676a.En

theorem lev_lt (t : ByteArray) : ∀ (S : List ByteArray) (i : Nat), 0 ≤ lev t S i → lev t S i < i + S.length
  | [], i, h => by simp [lev] at h
  | s :: S, i, h => by
    unfold lev at h ⊢
    split
    · simp; omega
    · rename_i hs
      rw [if_neg hs] at h
      have := lev_lt t S (i + 1) h
      simp at this ⊢
      omega
theorem plc_either (n : ByteArray) : ∀ (R : List RuleD) (i : Nat) (p : Int), plc n R i p = p ∨ ∃ j r, R[j]? = some r ∧ plc n R i p = ((i + j : Nat) : Int) ∧ (r.name.toList == n.toList) = true
  | [], i, p => .inl rfl
  | a :: R, i, p => by
    unfold plc
    rcases plc_either n R (i + 1) (if a.name.toList == n.toList then (i : Int) else p) with h | ⟨j, r, h1, h2, h3⟩
    · by_cases hm : (a.name.toList == n.toList) = true
      · rw [if_pos hm] at h ⊢
        exact .inr ⟨0, a, rfl, by rw [h]; simp, hm⟩
      · rw [if_neg hm] at h ⊢
        exact .inl h
    · exact .inr ⟨j + 1, r, by simpa using h1, by rw [h2]; congr 1; omega, h3⟩
theorem plc_some (R : List RuleD) (n : ByteArray) (h : 0 ≤ plc n R 0 (-1)) : ∃ (j : Nat) (r : RuleD), R[j]? = some r ∧ plc n R 0 (-1) = (j : Int) ∧ (r.name.toList == n.toList) = true := by
  rcases plc_either n R 0 (-1) with h0 | ⟨j, r, h1, h2, h3⟩
  · omega
  · exact ⟨j, r, h1, by simpa using h2, h3⟩
theorem plc_congr {n n' : ByteArray} (h : n.toList = n'.toList) : ∀ (R : List RuleD) (i : Nat) (p : Int), plc n R i p = plc n' R i p
  | [], i, p => rfl
  | a :: R, i, p => by unfold plc; rw [h]; exact plc_congr h R (i + 1) _

/-- The key of a key state that stands. -/
theorem key_facts {R : List RuleD} {q : ZK} {k : Key} (h : keyA R q = some k) : ∃ (i lv : Nat) (r : RuleD), k = ⟨i, lv, q.sensor⟩ ∧ R[i]? = some r ∧ lv < r.sevs.length ∧ (r.name.toList == q.rule.toList) = true ∧ plc q.rule R 0 (-1) = i := by
  unfold keyA at h
  split at h
  · cases h
  · split at h
    · cases h
    · rename_i h1
      have hk := Option.some.inj h
      have hge : 0 ≤ plc q.rule R 0 (-1) := by
        by_cases hlt : plc q.rule R 0 (-1) < 0
        · rw [mtc_np hlt] at h1; simp at h1
        · omega
      obtain ⟨i, r, hr, hp, hn⟩ := plc_some R q.rule hge
      have hm : (r.metric.toList == q.metric.toList) = true := by
        cases hm : (r.metric.toList == q.metric.toList) with
        | true => rfl
        | false => rw [mtc_om hp hr hm] at h1; simp at h1
      have hl : ¬ lev q.sev r.sevs 0 < 0 := fun hl => by rw [mtc_nl hp hr hm hl] at h1; simp at h1
      obtain ⟨lv, hlv⟩ : ∃ lv : Nat, lev q.sev r.sevs 0 = lv := ⟨(lev q.sev r.sevs 0).toNat, by omega⟩
      have hlt := lev_lt q.sev r.sevs 0 (by omega)
      rw [mtc_tk hp hr hm hlv] at hk
      exact ⟨i, lv, r, hk.symm, hr, by omega, hn, hp⟩

/-! ### What Active lists -/
structure AcR where
  rule : ByteArray
  sev : ByteArray
  state : ByteArray
  since : Int
  lts : Int
  sensor : ByteArray
  metric : ByteArray
  val : Nat
def acCells (a : AcR) : List Value := [.string a.rule, .string a.sev, .string a.state, .int .u64 (a.since % 1000000000), .int .i64 (a.since / 1000000000), .pointer none, .int .u64 (a.lts % 1000000000), .int .i64 (a.lts / 1000000000), .pointer none, .string a.sensor, .string a.metric, .float .f64 a.val]
theorem acLen (a : AcR) : (acCells a).length = 12 := rfl
theorem acOne (a : AcR) : ∀ u ∈ acCells a, u.oneCell' = true := by
  have h : (acCells a).all (·.oneCell') = true := by simp [acCells, Value.oneCell']
  intro u hu
  exact List.all_eq_true.1 h u hu

/-- The entries of the alarms, with the key states that left them. -/
def alX (R : List RuleD) (K : List ZK) (ptrs : List Nat) : List (Key × (ZK × Nat)) := gmap Key.same (fun x : ZK × Nat => keyA R x.1) (K.zip ptrs)
def alP (x : Key × (ZK × Nat)) : Key × Value := (x.1, .pointer (some ⟨x.2.2, 0, none⟩))
theorem alMap_X (R : List RuleD) (K : List ZK) (ptrs : List Nat) : alMap R (K.zip ptrs) = (alX R K ptrs).map alP := rfl

/-- a is the record of the entry p. -/
def Rc (R : List RuleD) (K : List ZK) (ptrs : List Nat) (p : Key × Value) (a : AcR) : Prop :=
  ∃ x ∈ alX R K ptrs, p = alP x ∧ ∃ (i : Nat) (r : RuleD), x.1.rule = i ∧ R[i]? = some r ∧ a.rule = r.name ∧ a.sev ∈ r.sevs ∧ a.state = x.2.1.state ∧ a.since = x.2.1.since ∧ a.lts = x.2.1.lts ∧ a.sensor = x.2.1.sensor ∧ a.metric = x.2.1.metric ∧ a.val = x.2.1.val
inductive RecL (R : List RuleD) (K : List ZK) (ptrs : List Nat) : List (Key × Value) → List AcR → Prop
  | nil : RecL R K ptrs [] []
  | skip {Y : List (Key × Value)} {D : List AcR} {p : Key × Value} : RecL R K ptrs Y D → 0 < p.1.level → RecL R K ptrs (Y ++ [p]) D
  | take {Y : List (Key × Value)} {D : List AcR} {p : Key × Value} {a : AcR} : RecL R K ptrs Y D → p.1.level = 0 → Rc R K ptrs p a → RecL R K ptrs (Y ++ [p]) (D ++ [a])
theorem RecL.back {R : List RuleD} {K : List ZK} {ptrs : List Nat} {Y : List (Key × Value)} {D : List AcR} (h : RecL R K ptrs Y D) : ∀ a ∈ D, ∃ p ∈ Y, p.1.level = 0 ∧ Rc R K ptrs p a := by
  induction h with
  | nil => simp
  | skip _ _ ih => intro a ha; obtain ⟨p, hp, h⟩ := ih a ha; exact ⟨p, List.mem_append_left _ hp, h⟩
  | take _ hl hr ih =>
    intro a ha
    rcases List.mem_append.1 ha with ha | ha
    · obtain ⟨p, hp, h⟩ := ih a ha; exact ⟨p, List.mem_append_left _ hp, h⟩
    · simp at ha; subst ha; exact ⟨_, List.mem_append_right _ (by simp), hl, hr⟩
theorem RecL.forth {R : List RuleD} {K : List ZK} {ptrs : List Nat} {Y : List (Key × Value)} {D : List AcR} (h : RecL R K ptrs Y D) : ∀ p ∈ Y, p.1.level = 0 → ∃ a ∈ D, Rc R K ptrs p a := by
  induction h with
  | nil => simp
  | skip _ hl ih =>
    intro p hp h0
    rcases List.mem_append.1 hp with hp | hp
    · exact ih p hp h0
    · simp at hp; subst hp; omega
  | take _ hl hr ih =>
    intro p hp h0
    rcases List.mem_append.1 hp with hp | hp
    · obtain ⟨a, ha, h⟩ := ih p hp h0; exact ⟨a, List.mem_append_left _ ha, h⟩
    · simp at hp; subst hp; exact ⟨_, List.mem_append_right _ (by simp), hr⟩
theorem RecL.le {R : List RuleD} {K : List ZK} {ptrs : List Nat} {Y : List (Key × Value)} {D : List AcR} (h : RecL R K ptrs Y D) : D.length ≤ Y.length := by
  induction h with
  | nil => simp
  | skip _ _ ih => simp; omega
  | take _ _ _ ih => simp; omega

/-- A raised alarm's key stands FIRING just when a record of its rule and sensor does. -/
theorem firing_iff (R : List RuleD) (K : List ZK) (ptrs : List Nat) (hpl : ptrs.length = K.length) (Y : List (Key × Value)) (hY : Y.Perm (alMap R (K.zip ptrs))) (D : List AcR) (hD : RecL R K ptrs Y D) (t : ZR) :
    (∃ a ∈ D, a.rule.toList = t.rule.toList ∧ a.sensor.toList = t.sensor.toList ∧ a.state.toList = [70, 73, 82, 73, 78, 71]) ↔ firT R K t = true := by
  have hzl : (K.zip ptrs).length = K.length := by simp; omega
  have hgl : ∀ (i : Nat) (s : ByteArray), gget Key.same ⟨i, 0, s⟩ (alX R K ptrs) = if lastTo (alarmAt R K i 0 s) K.length < 0 then none else (K.zip ptrs)[(lastTo (alarmAt R K i 0 s) K.length).toNat]? := by
    intro i s
    have hg := gget_gmap Key.same (fun x : ZK × Nat => keyA R x.1) same_iff (K.zip ptrs) K.length (by omega) ⟨i, 0, s⟩
    rw [List.take_of_length_le (by omega), lastA R K ptrs hpl i 0 s (by omega)] at hg
    exact hg
  constructor
  · rintro ⟨a, ha, h1, h2, h3⟩
    obtain ⟨p, hp, h0, x, hx, rfl, i, r, hi, hr, e1, e2, e3, e4, e5, e6, e7, e8⟩ := hD.back a ha
    obtain ⟨hxm, hk⟩ := gmap_mem Key.same (fun x : ZK × Nat => keyA R x.1) (K.zip ptrs) x hx
    obtain ⟨i', lv, r', hkk, hr', hlv, hn, hpp⟩ := key_facts hk
    have ei : i' = i := by rw [hkk] at hi; simp at hi; omega
    subst ei
    rw [hr] at hr'
    obtain rfl := Option.some.inj hr'
    have hlev : lv = 0 := by simp only [alP] at h0; rw [hkk] at h0; simp at h0; omega
    subst hlev
    have htr : t.rule.toList = x.2.1.rule.toList := by
      rw [← h1, e1]
      simpa using hn
    have hplc : plc t.rule R 0 (-1) = i' := by rw [plc_congr htr]; exact hpp
    have hsn : x.2.1.sensor = t.sensor := by
      have : x.2.1.sensor.toList = t.sensor.toList := by rw [← e6]; exact h2
      exact (bytes_eq_iff _ _).1 this
    have hgm := gget_mem Key.same same_iff (alX R K ptrs) (gmap_keyed Key.same _ same_iff (K.zip ptrs)) x hx
    rw [hkk, hsn] at hgm
    have hg2 := hgl i' t.sensor
    rw [show (⟨(i' : Int), ((0 : Nat) : Int), t.sensor⟩ : Key) = ⟨(i' : Int), 0, t.sensor⟩ from rfl] at hgm
    rw [hgm] at hg2
    have hnn : ¬ lastTo (alarmAt R K i' 0 t.sensor) K.length < 0 := by
      intro hneg
      rw [if_pos hneg] at hg2
      cases hg2
    rw [if_neg hnn] at hg2
    have hlt := lastTo_lt (alarmAt R K i' 0 t.sensor) K.length
    have hal : (lastTo (alarmAt R K i' 0 t.sensor) K.length).toNat < K.length := by omega
    have hzz : (K.zip ptrs)[(lastTo (alarmAt R K i' 0 t.sensor) K.length).toNat]? = some (K[(lastTo (alarmAt R K i' 0 t.sensor) K.length).toNat], ptrs[(lastTo (alarmAt R K i' 0 t.sensor) K.length).toNat]) := by
      rw [List.getElem?_eq_getElem (by omega)]; simp
    rw [hzz] at hg2
    have hx2 := Option.some.inj hg2
    unfold firT
    rw [hplc, decide_eq_false (by omega), decide_eq_false hnn, getD_at K noKey _ hal]
    have : K[(lastTo (alarmAt R K i' 0 t.sensor) K.length).toNat].state.toList = [70, 73, 82, 73, 78, 71] := by
      rw [← h3, e3, hx2]
    rw [this]
    rfl
  · intro hf
    unfold firT at hf
    have hp0 : ¬ plc t.rule R 0 (-1) < 0 := by
      intro h; rw [decide_eq_true h] at hf; simp at hf
    obtain ⟨i, r, hr, hp, hn⟩ := plc_some R t.rule (by omega)
    rw [hp] at hf
    have ha0 : ¬ lastTo (alarmAt R K i 0 t.sensor) K.length < 0 := by
      intro h; rw [decide_eq_true h] at hf; simp at hf
    have hlt := lastTo_lt (alarmAt R K i 0 t.sensor) K.length
    have hal : (lastTo (alarmAt R K i 0 t.sensor) K.length).toNat < K.length := by omega
    rw [decide_eq_false (by omega), decide_eq_false ha0, getD_at K noKey _ hal] at hf
    have hst : K[(lastTo (alarmAt R K i 0 t.sensor) K.length).toNat].state.toList = [70, 73, 82, 73, 78, 71] := by simpa using hf
    have hg2 := hgl i t.sensor
    rw [if_neg ha0] at hg2
    have hzz : (K.zip ptrs)[(lastTo (alarmAt R K i 0 t.sensor) K.length).toNat]? = some (K[(lastTo (alarmAt R K i 0 t.sensor) K.length).toNat], ptrs[(lastTo (alarmAt R K i 0 t.sensor) K.length).toNat]) := by
      rw [List.getElem?_eq_getElem (by omega)]; simp
    rw [hzz] at hg2
    have hmem := gget_some Key.same same_iff _ _ _ hg2
    have hY2 : alP (⟨(i : Int), 0, t.sensor⟩, (K[(lastTo (alarmAt R K i 0 t.sensor) K.length).toNat], ptrs[(lastTo (alarmAt R K i 0 t.sensor) K.length).toNat])) ∈ Y := by
      refine hY.mem_iff.2 ?_
      rw [alMap_X]
      exact List.mem_map.2 ⟨_, hmem, rfl⟩
    obtain ⟨a, ha, x, hx, hpx, i', r', hi', hr', e1, e2, e3, e4, e5, e6, e7, e8⟩ := hD.forth _ hY2 rfl
    have hkx : x.1 = ⟨(i : Int), 0, t.sensor⟩ := by
      have := congrArg Prod.fst hpx
      simpa [alP] using this.symm
    have hgx := gget_mem Key.same same_iff (alX R K ptrs) (gmap_keyed Key.same _ same_iff (K.zip ptrs)) x hx
    rw [hkx, hg2] at hgx
    have hx2 := Option.some.inj hgx
    have ei : i' = i := by rw [hkx] at hi'; simp at hi'; omega
    subst ei
    rw [hr] at hr'
    obtain rfl := Option.some.inj hr'
    obtain ⟨_, hk⟩ := gmap_mem Key.same (fun x : ZK × Nat => keyA R x.1) (K.zip ptrs) x hx
    obtain ⟨i'', lv, r'', hkk, _, _, _, _⟩ := key_facts hk
    refine ⟨a, ha, by rw [e1]; simpa using hn, ?_, by rw [e3, ← hx2]; exact hst⟩
    rw [e6]
    have : x.1.sensor = x.2.1.sensor := by rw [hkk]
    rw [← this, hkx]
end Go.Proofs.Qxb6605676a.Kz
