import Derived.Test.Qxb6605676aKz23
namespace Go.Proofs.Qxb6605676a.Kz
set_option linter.unusedVariables false
set_option linter.unusedSimpArgs false
open Go.RowKit Go.Proofs.Qxb6605676a.Mp Go.Proofs.Qxb6605676a.Tm Go.Proofs.Qxb6605676a.En

/-! ### What the maps that Restore fills answer (no Go) -/
theorem lastTo_congr {p q : Nat → Bool} : ∀ n, (∀ j, j < n → p j = q j) → lastTo p n = lastTo q n
  | 0, _ => rfl
  | n + 1, h => by unfold lastTo; rw [lastTo_congr n (fun j hj => h j (by omega)), h n (by omega)]

theorem keyA_same (R : List RuleD) (q : ZK) (i l : Int) (s : ByteArray) (hi : 0 ≤ i) : (match keyA R q with | none => false | some k' => Key.same ⟨i, l, s⟩ k') =
    ((q.sensor.toList == s.toList) && !(q.state.toList == okB.toList) && ((mtc R q.rule q.metric q.sev).1 == i) && ((mtc R q.rule q.metric q.sev).2 == l)) := by
  unfold keyA
  by_cases h1 : (q.state.toList == okB.toList) = true
  · rw [if_pos h1, h1]; simp
  · rw [if_neg h1]
    have h1' : (q.state.toList == okB.toList) = false := by simpa using h1
    rw [h1']
    by_cases h2 : (mtc R q.rule q.metric q.sev).1 < 0
    · rw [if_pos h2]
      have : ((mtc R q.rule q.metric q.sev).1 == i) = false := by simp; omega
      rw [this]; simp
    · rw [if_neg h2]
      simp only [Key.same]
      rw [Bool.eq_iff_iff]
      simp only [Bool.and_eq_true, beq_iff_eq, Bool.not_false, and_true]
      constructor
      · rintro ⟨a, b, c⟩; exact ⟨⟨c.symm, a.symm⟩, b.symm⟩
      · rintro ⟨⟨a, b⟩, c⟩; exact ⟨b.symm, c.symm, a.symm⟩

theorem keyC_same (R : List RuleD) (q : ZK) (i l : Int) (s : ByteArray) (hi : 0 ≤ i) : (match keyC R q with | none => false | some k' => Key.same ⟨i, l, s⟩ k') =
    ((q.sensor.toList == s.toList) && !(q.cool == 0) && ((mtc R q.rule q.metric q.sev).1 == i) && ((mtc R q.rule q.metric q.sev).2 == l)) := by
  unfold keyC
  by_cases h1 : q.cool = 0
  · rw [if_pos h1]; simp [h1]
  · rw [if_neg h1]
    have h1' : (q.cool == 0) = false := by simpa using h1
    rw [h1']
    by_cases h2 : (mtc R q.rule q.metric q.sev).1 < 0
    · rw [if_pos h2]
      have : ((mtc R q.rule q.metric q.sev).1 == i) = false := by simp; omega
      rw [this]; simp
    · rw [if_neg h2]
      simp only [Key.same]
      rw [Bool.eq_iff_iff]
      simp only [Bool.and_eq_true, beq_iff_eq, Bool.not_false, and_true]
      constructor
      · rintro ⟨a, b, c⟩; exact ⟨⟨c.symm, a.symm⟩, b.symm⟩
      · rintro ⟨⟨a, b⟩, c⟩; exact ⟨b.symm, c.symm, a.symm⟩

theorem getD_at {α} (L : List α) (d : α) (j : Nat) (h : j < L.length) : L.getD j d = L[j] := by simp [List.getD, h]

theorem pkA (R : List RuleD) (K : List ZK) (ptrs : List Nat) (hl : ptrs.length = K.length) (i l : Int) (s : ByteArray) (hi : 0 ≤ i) (j : Nat) (hj : j < K.length) :
    pk Key.same (fun x : ZK × Nat => keyA R x.1) (K.zip ptrs) ⟨i, l, s⟩ j = alarmAt R K i l s j := by
  have hz : (K.zip ptrs)[j]? = some (K[j], ptrs[j]) := by rw [List.getElem?_eq_getElem (by simp; omega)]; simp
  unfold pk keyAt alarmAt
  rw [hz, getD_at K noKey j hj]
  simp only [Option.bind_some]
  rw [← keyA_same R K[j] i l s hi]
  cases keyA R K[j] <;> rfl

theorem pkC (R : List RuleD) (K : List ZK) (i l : Int) (s : ByteArray) (hi : 0 ≤ i) (j : Nat) (hj : j < K.length) :
    pk Key.same (keyC R) K ⟨i, l, s⟩ j = coolAt R K i l s j := by
  have hz : K[j]? = some K[j] := by simp
  unfold pk keyAt coolAt
  rw [hz, getD_at K noKey j hj]
  simp only [Option.bind_some]
  rw [← keyC_same R K[j] i l s hi]
  cases keyC R K[j] <;> rfl

theorem lastA (R : List RuleD) (K : List ZK) (ptrs : List Nat) (hl : ptrs.length = K.length) (i l : Int) (s : ByteArray) (hi : 0 ≤ i) :
    lastK Key.same (fun x : ZK × Nat => keyA R x.1) (K.zip ptrs) ⟨i, l, s⟩ K.length = lastTo (alarmAt R K i l s) K.length :=
  lastTo_congr _ fun j hj => pkA R K ptrs hl i l s hi j hj
theorem lastC (R : List RuleD) (K : List ZK) (i l : Int) (s : ByteArray) (hi : 0 ≤ i) :
    lastK Key.same (keyC R) K ⟨i, l, s⟩ K.length = lastTo (coolAt R K i l s) K.length :=
  lastTo_congr _ fun j hj => pkC R K i l s hi j hj

/-- A lookup in the alarms. -/
theorem alarm_look (R : List RuleD) (K : List ZK) (ptrs : List Nat) (hl : ptrs.length = K.length) (i l : Int) (s : ByteArray) (hi : 0 ≤ i) :
    Mp.get Key.same ⟨i, l, s⟩ (alMap R (K.zip ptrs)) = if lastTo (alarmAt R K i l s) K.length < 0 then none else some (.pointer (some ⟨ptrs.getD (lastTo (alarmAt R K i l s) K.length).toNat 0, 0, none⟩)) := by
  have hzl : (K.zip ptrs).length = K.length := by simp; omega
  have hg := gget_gmap Key.same (fun x : ZK × Nat => keyA R x.1) same_iff (K.zip ptrs) K.length (by omega) ⟨i, l, s⟩
  rw [List.take_of_length_le (by omega), lastA R K ptrs hl i l s hi] at hg
  unfold alMap
  rw [get_map Key.same (fun x : ZK × Nat => Value.pointer (some ⟨x.2, 0, none⟩)), hg]
  by_cases h : lastTo (alarmAt R K i l s) K.length < 0
  · rw [if_pos h, if_pos h]; rfl
  · rw [if_neg h, if_neg h]
    have hlt := lastTo_lt (alarmAt R K i l s) K.length
    have hz : (K.zip ptrs)[(lastTo (alarmAt R K i l s) K.length).toNat]? = some (K[(lastTo (alarmAt R K i l s) K.length).toNat]'(by omega), ptrs[(lastTo (alarmAt R K i l s) K.length).toNat]'(by omega)) := by
      rw [List.getElem?_eq_getElem (by omega)]; simp
    rw [hz, getD_at ptrs 0 _ (by omega)]
    rfl

/-- A lookup in the cooldowns. -/
theorem cool_look (R : List RuleD) (K : List ZK) (i l : Int) (s : ByteArray) (hi : 0 ≤ i) :
    Mp.get Key.same ⟨i, l, s⟩ (coMap R K) = if lastTo (coolAt R K i l s) K.length < 0 then none else some (T (K.getD (lastTo (coolAt R K i l s) K.length).toNat noKey).cool) := by
  have hg := gget_gmap Key.same (keyC R) same_iff K K.length (Nat.le_refl _) ⟨i, l, s⟩
  rw [List.take_of_length_le (Nat.le_refl _), lastC R K i l s hi] at hg
  unfold coMap
  rw [get_map Key.same (fun x : ZK => T x.cool), hg]
  by_cases h : lastTo (coolAt R K i l s) K.length < 0
  · rw [if_pos h, if_pos h]; rfl
  · rw [if_neg h, if_neg h]
    have hlt := lastTo_lt (coolAt R K i l s) K.length
    rw [List.getElem?_eq_getElem (by omega), getD_at K noKey _ (by omega)]
    rfl

/-- Does the key state j, not OK, bear the rule's name and the sensor? -/
def rdAt (K : List ZK) (a b : ByteArray) (j : Nat) : Bool := !((K.getD j noKey).state.toList == okB.toList) && ((K.getD j noKey).rule.toList == a.toList) && ((K.getD j noKey).sensor.toList == b.toList)
theorem pkL (K : List ZK) (a b : ByteArray) (j : Nat) (hj : j < K.length) : pk sameP keyL K (a, b) j = rdAt K a b j := by
  have hz : K[j]? = some K[j] := by simp
  unfold pk keyAt rdAt
  rw [hz, getD_at K noKey j hj]
  simp only [Option.bind_some]
  unfold keyL
  by_cases h1 : (K[j].state.toList == okB.toList) = true
  · rw [if_pos h1, h1]; simp
  · rw [if_neg h1]
    have h1' : (K[j].state.toList == okB.toList) = false := by simpa using h1
    rw [h1']
    simp only [sameP]
    rw [Bool.eq_iff_iff]
    simp only [Bool.and_eq_true, beq_iff_eq, Bool.not_false, true_and]
    exact ⟨fun ⟨x, y⟩ => ⟨x.symm, y.symm⟩, fun ⟨x, y⟩ => ⟨x.symm, y.symm⟩⟩
/-- A lookup in the last readings. -/
theorem lr_look (K : List ZK) (a b : ByteArray) : Mp.get sameP (a, b) (lrMap K) = if lastTo (rdAt K a b) K.length < 0 then none else some (rdv (K.getD (lastTo (rdAt K a b) K.length).toNat noKey)) := by
  have hg := gget_gmap sameP keyL sameP_iff K K.length (Nat.le_refl _) (a, b)
  rw [List.take_of_length_le (Nat.le_refl _)] at hg
  have hL : lastK sameP keyL K (a, b) K.length = lastTo (rdAt K a b) K.length := lastTo_congr _ fun j hj => pkL K a b j hj
  rw [hL] at hg
  unfold lrMap
  rw [get_map sameP rdv, hg]
  by_cases h : lastTo (rdAt K a b) K.length < 0
  · rw [if_pos h, if_pos h]; rfl
  · rw [if_neg h, if_neg h]
    have hlt := lastTo_lt (rdAt K a b) K.length
    rw [List.getElem?_eq_getElem (by omega), getD_at K noKey _ (by omega)]
    rfl

/-- Is j counted as an alarm, as a cooldown? -/
def cA (R : List RuleD) (K : List ZK) (j : Nat) : Bool := !((K.getD j noKey).state.toList == okB.toList) && !decide ((mtc R (K.getD j noKey).rule (K.getD j noKey).metric (K.getD j noKey).sev).1 < 0) &&
  decide (lastTo (alarmAt R K (mtc R (K.getD j noKey).rule (K.getD j noKey).metric (K.getD j noKey).sev).1 (mtc R (K.getD j noKey).rule (K.getD j noKey).metric (K.getD j noKey).sev).2 (K.getD j noKey).sensor) K.length = (j : Int))
def cC (R : List RuleD) (K : List ZK) (j : Nat) : Bool := !((K.getD j noKey).cool == 0) && !decide ((mtc R (K.getD j noKey).rule (K.getD j noKey).metric (K.getD j noKey).sev).1 < 0) &&
  decide (lastTo (coolAt R K (mtc R (K.getD j noKey).rule (K.getD j noKey).metric (K.getD j noKey).sev).1 (mtc R (K.getD j noKey).rule (K.getD j noKey).metric (K.getD j noKey).sev).2 (K.getD j noKey).sensor) K.length = (j : Int))

theorem alMap_length (R : List RuleD) (K : List ZK) (ptrs : List Nat) (hl : ptrs.length = K.length) : (alMap R (K.zip ptrs)).length = cntTo (cA R K) K.length := by
  have hzl : (K.zip ptrs).length = K.length := by simp; omega
  have hg := gmap_length Key.same (fun x : ZK × Nat => keyA R x.1) same_iff (K.zip ptrs) K.length (by omega)
  rw [List.take_of_length_le (by omega)] at hg
  unfold alMap
  rw [List.length_map, hg]
  refine cntTo_congr _ fun j hj => ?_
  have hz : (K.zip ptrs)[j]? = some (K[j], ptrs[j]) := by rw [List.getElem?_eq_getElem (by omega)]; simp
  unfold isLast keyAt cA
  rw [hz, getD_at K noKey j hj]
  simp only [Option.bind_some]
  unfold keyA
  by_cases h1 : (K[j].state.toList == okB.toList) = true
  · rw [if_pos h1, h1]; simp
  · rw [if_neg h1]
    have h1' : (K[j].state.toList == okB.toList) = false := by simpa using h1
    rw [h1']
    by_cases h2 : (mtc R K[j].rule K[j].metric K[j].sev).1 < 0
    · rw [if_pos h2]; simp [h2]
    · rw [if_neg h2]
      have := lastA R K ptrs hl (mtc R K[j].rule K[j].metric K[j].sev).1 (mtc R K[j].rule K[j].metric K[j].sev).2 K[j].sensor (by omega)
      unfold keyA at this
      simp only [this]
      simp [h2]

theorem coMap_length (R : List RuleD) (K : List ZK) : (coMap R K).length = cntTo (cC R K) K.length := by
  have hg := gmap_length Key.same (keyC R) same_iff K K.length (Nat.le_refl _)
  rw [List.take_of_length_le (Nat.le_refl _)] at hg
  unfold coMap
  rw [List.length_map, hg]
  refine cntTo_congr _ fun j hj => ?_
  have hz : K[j]? = some K[j] := by simp
  unfold isLast keyAt cC
  rw [hz, getD_at K noKey j hj]
  simp only [Option.bind_some]
  by_cases h1 : K[j].cool = 0
  · simp [keyC, h1]
  · have h1' : (K[j].cool == 0) = false := by simpa using h1
    rw [h1']
    by_cases h2 : (mtc R K[j].rule K[j].metric K[j].sev).1 < 0
    · simp [keyC, h1, h2]
    · have hk : keyC R K[j] = some ⟨(mtc R K[j].rule K[j].metric K[j].sev).1, (mtc R K[j].rule K[j].metric K[j].sev).2, K[j].sensor⟩ := by unfold keyC; rw [if_neg h1, if_neg h2]
      rw [hk]
      simp only [lastC R K _ _ _ (by omega : 0 ≤ (mtc R K[j].rule K[j].metric K[j].sev).1)]
      simp [h2]

/-- Does series j bear the sensor and metric? -/
def noSer : ZS := ⟨⟨#[]⟩, ⟨#[]⟩, 0⟩
def serAt (S : List ZS) (a b : ByteArray) (j : Nat) : Bool := ((S.getD j noSer).sensor.toList == a.toList) && ((S.getD j noSer).metric.toList == b.toList)
theorem pkS (S : List ZS) (a b : ByteArray) (j : Nat) (hj : j < S.length) : pk sameP keyS S (a, b) j = serAt S a b j := by
  have hz : S[j]? = some S[j] := by simp
  unfold pk keyAt serAt
  rw [hz, getD_at S noSer j hj]
  simp only [Option.bind_some, keyS, sameP]
  rw [Bool.eq_iff_iff]
  simp only [Bool.and_eq_true, beq_iff_eq]
  exact ⟨fun ⟨x, y⟩ => ⟨x.symm, y.symm⟩, fun ⟨x, y⟩ => ⟨x.symm, y.symm⟩⟩
theorem ls_look (S : List ZS) (a b : ByteArray) : Mp.get sameP (a, b) (lsMap S) = if lastTo (serAt S a b) S.length < 0 then none else some (T (S.getD (lastTo (serAt S a b) S.length).toNat noSer).last) := by
  have hg := gget_gmap sameP keyS sameP_iff S S.length (Nat.le_refl _) (a, b)
  rw [List.take_of_length_le (Nat.le_refl _)] at hg
  have hL : lastK sameP keyS S (a, b) S.length = lastTo (serAt S a b) S.length := lastTo_congr _ fun j hj => pkS S a b j hj
  rw [hL] at hg
  unfold lsMap
  rw [get_map sameP (fun q : ZS => T q.last), hg]
  by_cases h : lastTo (serAt S a b) S.length < 0
  · rw [if_pos h, if_pos h]; rfl
  · rw [if_neg h, if_neg h]
    have hlt := lastTo_lt (serAt S a b) S.length
    rw [List.getElem?_eq_getElem (by omega), getD_at S noSer _ (by omega)]
    rfl
def cS (S : List ZS) (j : Nat) : Bool := decide (lastTo (serAt S (S.getD j noSer).sensor (S.getD j noSer).metric) S.length = (j : Int))
theorem lsMap_length (S : List ZS) : (lsMap S).length = cntTo (cS S) S.length := by
  have hg := gmap_length sameP keyS sameP_iff S S.length (Nat.le_refl _)
  rw [List.take_of_length_le (Nat.le_refl _)] at hg
  unfold lsMap
  rw [List.length_map, hg]
  refine cntTo_congr _ fun j hj => ?_
  have hz : S[j]? = some S[j] := by simp
  unfold isLast keyAt cS
  rw [hz, getD_at S noSer j hj]
  simp only [Option.bind_some, keyS]
  have hL : lastK sameP keyS S (S[j].sensor, S[j].metric) S.length = lastTo (serAt S S[j].sensor S[j].metric) S.length := lastTo_congr _ fun j hj => pkS S _ _ j hj
  rw [hL]

/-! ### The transitions that Restore ends -/
/-- Does the key of a raised alarm stand FIRING behind Restore? -/
def firT (R : List RuleD) (K : List ZK) (t : ZR) : Bool := !decide (plc t.rule R 0 (-1) < 0) && !decide (lastTo (alarmAt R K (plc t.rule R 0 (-1)) 0 t.sensor) K.length < 0) && ((K.getD (lastTo (alarmAt R K (plc t.rule R 0 (-1)) 0 t.sensor) K.length).toNat noKey).state.toList == [70, 73, 82, 73, 78, 71])
/-- The reading of a transition that ends: the key's last, else the raise's own. -/
def endRd (K : List ZK) (t : ZR) : List Value := if lastTo (rdAt K t.rule t.sensor) K.length < 0 then [.int .u64 (t.ts % 1000000000), .int .i64 (t.ts / 1000000000), .pointer none, .string t.sensor, .string t.metric, .float .f64 t.val]
  else let q := K.getD (lastTo (rdAt K t.rule t.sensor) K.length).toNat noKey; [.int .u64 (q.lts % 1000000000), .int .i64 (q.lts / 1000000000), .pointer none, .string q.sensor, .string q.metric, .float .f64 q.val]
/-- The cells of a transition that ends. -/
def teCells (K : List ZK) (t : ZR) : List Value := [.string t.rule, .string t.sev, .string ⟨#[82, 69, 83, 79, 76, 86, 69, 68]⟩] ++ endRd K t ++ [.int .u64 (t.raised % 1000000000), .int .i64 (t.raised / 1000000000), .pointer none, .bool false]
def endL (R : List RuleD) (K : List ZK) (T' : List ZR) : List ZR := T'.filter fun t => !firT R K t
theorem teLen (K : List ZK) (t : ZR) : (teCells K t).length = 13 := by
  unfold teCells endRd
  split <;> rfl
theorem teOne (K : List ZK) (t : ZR) : ∀ u ∈ teCells K t, u.oneCell' = true := by
  have h : (teCells K t).all (·.oneCell') = true := by
    unfold teCells endRd
    split <;> simp [Value.oneCell']
  intro u hu
  exact List.all_eq_true.1 h u hu
theorem endL_at (R : List RuleD) (K : List ZK) (T' : List ZR) (j : Nat) (h : j < T'.length) (hu : firT R K T'[j] = false) : (endL R K T')[(endL R K (T'.take j)).length]? = some T'[j] := by
  have e : T' = T'.take j ++ (T'[j] :: T'.drop (j + 1)) := by
    rw [← List.drop_eq_getElem_cons h, List.take_append_drop]
  have e2 : endL R K T' = endL R K (T'.take j) ++ (T'[j] :: endL R K (T'.drop (j + 1))) := by
    conv => lhs; rw [e]
    unfold endL
    rw [List.filter_append, List.filter_cons, if_pos (by simp [hu])]
  rw [e2, List.getElem?_append_right (Nat.le_refl _)]
  simp
theorem endL_snoc (R : List RuleD) (K : List ZK) (T' : List ZR) (j : Nat) (h : j < T'.length) : endL R K (T'.take (j + 1)) = endL R K (T'.take j) ++ (if firT R K T'[j] then [] else [T'[j]]) := by
  rw [List.take_succ_eq_append_getElem h]
  unfold endL
  rw [List.filter_append, List.filter_cons]
  cases firT R K T'[j] <;> simp
theorem endL_le (R : List RuleD) (K : List ZK) (T' : List ZR) : (endL R K T').length ≤ T'.length := List.length_filter_le _ _
end Go.Proofs.Qxb6605676a.Kz
