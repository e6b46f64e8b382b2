import Derived.Test.Qxb6605676aKz58
namespace Go.Proofs.Qxb6605676a.Kz
set_option linter.unusedVariables false
set_option linter.unusedSimpArgs false
open Go.RowKit Go.Lib Go.Shelf Go.Proofs.Qxb6605676a.Mp
open Go.Sort hiding Below

/-! ### What the model lists is what Active lists (no Go) -/
theorem stands_key (R : List RuleD) (q : ZK) (i : Nat) : stands R q = some i ↔ keyA R q = some ⟨(i : Int), 0, q.sensor⟩ := by
  unfold stands keyA
  split
  · simp
  · split
    · simp
    · rename_i h1 h2
      constructor
      · intro h
        split at h
        · rename_i h3
          have := Option.some.inj h
          rw [h3, show (mtc R q.rule q.metric q.sev).1 = (i : Int) by omega]
        · cases h
      · intro h
        have h := Option.some.inj h
        injection h with e1 e2
        rw [if_pos e2, e1]
        simp
theorem stands_facts {R : List RuleD} {q : ZK} {i : Nat} (h : stands R q = some i) : (q.state.toList == okB.toList) = false ∧ mtc R q.rule q.metric q.sev = ((i : Int), 0) ∧ ∃ r, R[i]? = some r := by
  have hk := (stands_key R q i).1 h
  obtain ⟨i', lv, r, hkk, hr, _, _, _⟩ := key_facts hk
  injection hkk with e1 e2 e3
  have : i' = i := by omega
  subst this
  unfold keyA at hk
  split at hk
  · cases hk
  · split at hk
    · cases hk
    · rename_i h1 h2
      have hk := Option.some.inj hk
      injection hk with f1 f2 f3
      refine ⟨by simpa using h1, ?_, r, hr⟩
      rw [← f1, ← f2]
theorem lastTo_pos {p : Nat → Bool} {j : Nat} (hp : p j = true) : ∀ n, j < n → 0 ≤ lastTo p n
  | 0, h => by omega
  | n + 1, h => by
    unfold lastTo
    split
    · omega
    · rename_i hn
      rcases Nat.lt_or_ge j n with hj | hj
      · exact lastTo_pos hp n hj
      · obtain rfl : j = n := by omega
        exact absurd hp hn
theorem modL_len (R : List RuleD) : ∀ (K : List ZK), (modL R K).length ≤ K.length := by
  have : ∀ (K : List ZK) (E : List EN), (K.foldl (modStep R) E).length ≤ E.length + K.length := by
    intro K
    induction K with
    | nil => intro E; simp
    | cons q K ih =>
      intro E
      have := ih (modStep R E q)
      have h2 : (modStep R E q).length ≤ E.length + 1 := by
        unfold modStep
        split
        · omega
        · split
          · omega
          · simp
      simp
      omega
  intro K
  have := this K []
  simpa [modL] using this

/-- The entry, filled. -/
def srcOf (R : List RuleD) (K : List ZK) (e : EN) : Int := lastTo (alarmAt R K e.rule 0 e.sensor) K.length
def sevOf (R : List RuleD) (e : EN) : ByteArray := ((R.getD e.rule noR).sevs)[0]?.getD ⟨#[]⟩
def fil (R : List RuleD) (K : List ZK) (e : EN) : EN := ⟨e.rule, e.sensor, srcOf R K e, sevOf R e⟩
/-- The key state that an entry stands for: it stands at the entry's rule and sensor. -/
theorem src_facts {R : List RuleD} {K : List ZK} {e : EN} (he : ∃ q ∈ K, stands R q = some e.rule ∧ q.sensor = e.sensor) : ∃ (a : Nat) (za : ZK) (r : RuleD), srcOf R K e = (a : Int) ∧ K[a]? = some za ∧ R[e.rule]? = some r ∧ za.sensor = e.sensor := by
  obtain ⟨q, hq, hs, hse⟩ := he
  obtain ⟨h1, h2, r, hr⟩ := stands_facts hs
  obtain ⟨j, hj, hjq⟩ := List.getElem_of_mem hq
  have hp : alarmAt R K e.rule 0 e.sensor j = true := by
    unfold alarmAt
    rw [getD_at K noKey j hj, hjq, h2, h1, hse]
    simp
  have h0 := lastTo_pos hp K.length hj
  have hlt := lastTo_lt (alarmAt R K e.rule 0 e.sensor) K.length
  have hat := lastTo_at (alarmAt R K e.rule 0 e.sensor) K.length h0
  obtain ⟨a, ha⟩ : ∃ a : Nat, lastTo (alarmAt R K e.rule 0 e.sensor) K.length = a := ⟨(lastTo (alarmAt R K e.rule 0 e.sensor) K.length).toNat, by omega⟩
  have hal : a < K.length := by omega
  refine ⟨a, K[a], r, ha, by simp, hr, ?_⟩
  rw [ha, Int.toNat_natCast] at hat
  unfold alarmAt at hat
  rw [getD_at K noKey a hal] at hat
  simp only [Bool.and_eq_true] at hat
  have := hat.1.1.1
  exact (bytes_eq_iff _ _).1 (by simpa using this)

/-- The record that Active gives of an entry. -/
def recOf (R : List RuleD) (K : List ZK) (e : EN) : AcR :=
  let q := K.getD e.src.toNat noKey
  ⟨(R.getD e.rule noR).name, e.sev, q.state, q.since, q.lts, q.sensor, q.metric, q.val⟩

theorem rc_rec {R : List RuleD} {K : List ZK} {ptrs : List Nat} (hpl : ptrs.length = K.length) (hone : ∀ r ∈ R, ∃ s, r.sevs = [s]) {p : Key × Value} {a : AcR} (hp : Rc R K ptrs p a) (h0 : p.1.level = 0) :
    ∃ (i : Nat) (s : ByteArray), p.1 = ⟨(i : Int), 0, s⟩ ∧ a = recOf R K (fil R K ⟨i, s, 0, ⟨#[]⟩⟩) ∧ ∃ q ∈ K, stands R q = some i ∧ q.sensor = s := by
  have hzl : (K.zip ptrs).length = K.length := by simp; omega
  obtain ⟨x, hx, rfl, i, r, hi, hr, e1, e2, e3, e4, e5, e6, e7, e8⟩ := hp
  obtain ⟨hxm, hk⟩ := gmap_mem Key.same (fun x : ZK × Nat => keyA R x.1) (K.zip ptrs) x hx
  obtain ⟨i', lv, r', hkk, hr', hlv, hn, hpp⟩ := key_facts hk
  have ei : i' = i := by rw [hkk] at hi; simp at hi; omega
  subst ei
  rw [hr] at hr'
  obtain rfl := Option.some.inj hr'
  have hlev : lv = 0 := by simp only [alP] at h0; rw [hkk] at h0; simp at h0; omega
  subst hlev
  have hgm := gget_mem Key.same same_iff (alX R K ptrs) (gmap_keyed Key.same _ same_iff (K.zip ptrs)) x hx
  rw [hkk] at hgm
  have hg2 := gget_gmap Key.same (fun x : ZK × Nat => keyA R x.1) same_iff (K.zip ptrs) K.length (by omega) ⟨(i' : Int), ((0 : Nat) : Int), x.2.1.sensor⟩
  rw [List.take_of_length_le (by omega), lastA R K ptrs hpl i' ((0 : Nat) : Int) x.2.1.sensor (by omega)] at hg2
  have hgm' : gget Key.same ⟨(i' : Int), ((0 : Nat) : Int), x.2.1.sensor⟩ (gmap Key.same (fun x : ZK × Nat => keyA R x.1) (K.zip ptrs)) = some x.2 := hgm
  rw [hgm'] at hg2
  have hnn : ¬ lastTo (alarmAt R K i' ((0 : Nat) : Int) x.2.1.sensor) K.length < 0 := by
    intro hneg
    rw [if_pos hneg] at hg2
    cases hg2
  rw [if_neg hnn] at hg2
  have hlt := lastTo_lt (alarmAt R K i' ((0 : Nat) : Int) x.2.1.sensor) K.length
  have hal : (lastTo (alarmAt R K i' ((0 : Nat) : Int) x.2.1.sensor) K.length).toNat < K.length := by omega
  have hzz : (K.zip ptrs)[(lastTo (alarmAt R K i' ((0 : Nat) : Int) x.2.1.sensor) K.length).toNat]? = some (K[(lastTo (alarmAt R K i' ((0 : Nat) : Int) x.2.1.sensor) K.length).toNat], ptrs[(lastTo (alarmAt R K i' ((0 : Nat) : Int) x.2.1.sensor) K.length).toNat]) := by
    rw [List.getElem?_eq_getElem (by omega)]; simp
  rw [hzz] at hg2
  have hx2 : x.2.1 = K[(lastTo (alarmAt R K i' ((0 : Nat) : Int) x.2.1.sensor) K.length).toNat] := by
    have := congrArg Prod.fst (Option.some.inj hg2)
    exact this
  have hst : stands R x.2.1 = some i' := (stands_key R x.2.1 i').2 (by rw [hk, hkk]; rfl)
  refine ⟨i', x.2.1.sensor, ?_, ?_, x.2.1, List.of_mem_zip hxm |>.1, hst, rfl⟩
  · show x.1 = _
    rw [hkk]; rfl
  · obtain ⟨s, hs⟩ := hone r (List.mem_of_getElem? hr)
    rw [hs] at e2
    have e2 : a.sev = s := by simpa using e2
    have hsrc : K.getD (srcOf R K ⟨i', x.2.1.sensor, 0, ⟨#[]⟩⟩).toNat noKey = x.2.1 := by
      unfold srcOf
      show K.getD (lastTo (alarmAt R K i' ((0 : Nat) : Int) x.2.1.sensor) K.length).toNat noKey = _
      rw [getD_at K noKey _ hal]
      exact hx2.symm
    have hrn : R.getD i' noR = r := by
      obtain ⟨hil, hiv⟩ := List.getElem?_eq_some_iff.1 hr
      rw [getD_at R noR i' hil, hiv]
    unfold recOf fil
    simp only
    rw [hsrc, hrn]
    cases a
    simp only at *
    subst e1 e2 e3 e4 e5 e6 e7 e8
    congr 1
    unfold sevOf
    simp only
    rw [hrn, hs]
    rfl

/-- The rules' names are their own. -/
def Own (R : List RuleD) : Prop := ∀ (i j : Nat) (r r' : RuleD), R[i]? = some r → R[j]? = some r' → r.name.toList = r'.name.toList → i = j
def apartK (a b : AcR) : Prop := ¬ (a.rule.data.toList = b.rule.data.toList ∧ a.sensor.data.toList = b.sensor.data.toList)
theorem lt_of_apart {a b : AcR} (h : ltOf cfA b a = false) (hk : apartK a b) : ltOf cfA a b = true := by
  have hn : ¬ (compareBytes b.rule.data.toList a.rule.data.toList < 0 ∨ (b.rule.data.toList = a.rule.data.toList ∧ compareBytes b.sensor.data.toList a.sensor.data.toList < 0)) := by
    rw [← cfA_lt, h]; simp
  rw [cfA_lt]
  rcases cb_or b.rule.data.toList a.rule.data.toList (fun hh => hn (.inl hh)) with e | hh
  · rcases cb_or b.sensor.data.toList a.sensor.data.toList (fun hh => hn (.inr ⟨e, hh⟩)) with e2 | hh
    · exact absurd ⟨e.symm, e2.symm⟩ hk
    · exact .inr ⟨e.symm, hh⟩
  · exact .inl hh
theorem sorted_mem {α : Type} (lt : α → α → Bool) (hasym : ∀ x y, lt x y = true → lt y x = false) : ∀ (A B : List α), (∀ x, x ∈ A ↔ x ∈ B) → A.Pairwise (fun x y => lt x y = true) → B.Pairwise (fun x y => lt x y = true) → A = B
  | [], [], _, _, _ => rfl
  | [], b :: B, h, _, _ => by have := (h b).2 List.mem_cons_self; cases this
  | a :: A, [], h, _, _ => by have := (h a).1 List.mem_cons_self; cases this
  | a :: A, b :: B, h, hA, hB => by
    obtain ⟨hA1, hA2⟩ := List.pairwise_cons.1 hA
    obtain ⟨hB1, hB2⟩ := List.pairwise_cons.1 hB
    have irr : ∀ x, lt x x = false := fun x => by
      cases hx : lt x x with
      | false => rfl
      | true => have := hasym x x hx; rw [hx] at this; cases this
    have hab : a = b := by
      rcases List.mem_cons.1 ((h a).1 List.mem_cons_self) with h1 | h1
      · exact h1
      · rcases List.mem_cons.1 ((h b).2 List.mem_cons_self) with h2 | h2
        · exact h2.symm
        · have x1 := hB1 a h1
          have x2 := hA1 b h2
          rw [hasym _ _ x1] at x2
          cases x2
    subst hab
    have ht : ∀ x, x ∈ A ↔ x ∈ B := by
      intro x
      constructor
      · intro hx
        rcases List.mem_cons.1 ((h x).1 (List.mem_cons_of_mem _ hx)) with h1 | h1
        · subst h1; have := hA1 x hx; rw [irr] at this; cases this
        · exact h1
      · intro hx
        rcases List.mem_cons.1 ((h x).2 (List.mem_cons_of_mem _ hx)) with h1 | h1
        · subst h1; have := hB1 x hx; rw [irr] at this; cases this
        · exact h1
    rw [sorted_mem lt hasym A B ht hA2 hB2]
theorem pair_of_idx {α : Type} {P : α → α → Prop} : ∀ (L : List α), (∀ (i j : Nat) (a b : α), L[i]? = some a → L[j]? = some b → i < j → P a b) → L.Pairwise P
  | [], _ => List.Pairwise.nil
  | x :: L, h => List.pairwise_cons.2 ⟨fun y hy => by
      obtain ⟨j, hj, rfl⟩ := List.getElem_of_mem hy
      exact h 0 (j + 1) x _ rfl (by simp) (by omega), pair_of_idx L fun i j a b ha hb hij => h (i + 1) (j + 1) a b (by simpa using ha) (by simpa using hb) (by omega)⟩
theorem rec_sensor {R : List RuleD} {K : List ZK} {e : EN} (he : ∃ q ∈ K, stands R q = some e.rule ∧ q.sensor = e.sensor) : (recOf R K (fil R K e)).sensor = e.sensor := by
  obtain ⟨a, za, r, h1, h2, h3, h4⟩ := src_facts he
  obtain ⟨hal, rfl⟩ := List.getElem?_eq_some_iff.1 h2
  unfold recOf fil
  simp only
  rw [h1, Int.toNat_natCast, getD_at K noKey a hal]
  exact h4
theorem rec_rule (R : List RuleD) (K : List ZK) (e : EN) : (recOf R K (fil R K e)).rule = (R.getD e.rule noR).name := rfl
theorem cfA_congr {a b a' b' : AcR} (h1 : a.rule = a'.rule) (h2 : a.sensor = a'.sensor) (h3 : b.rule = b'.rule) (h4 : b.sensor = b'.sensor) : ltOf cfA a b = ltOf cfA a' b' := by
  unfold ltOf cfA
  rw [h1, h2, h3, h4]
theorem name_at {R : List RuleD} {i : Nat} {r : RuleD} (h : R[i]? = some r) : R.getD i noR = r := by
  obtain ⟨hil, hiv⟩ := List.getElem?_eq_some_iff.1 h
  rw [getD_at R noR i hil, hiv]
theorem rec_apart {R : List RuleD} {K : List ZK} (hown : Own R) {x y : EN} (hx : ∃ q ∈ K, stands R q = some x.rule ∧ q.sensor = x.sensor) (hy : ∃ q ∈ K, stands R q = some y.rule ∧ q.sensor = y.sensor) (h : ¬ (x.rule = y.rule ∧ x.sensor = y.sensor)) :
    apartK (recOf R K (fil R K x)) (recOf R K (fil R K y)) := by
  rintro ⟨h1, h2⟩
  rw [rec_sensor hx, rec_sensor hy] at h2
  rw [rec_rule, rec_rule] at h1
  obtain ⟨_, _, r, _, _, hr, _⟩ := src_facts hx
  obtain ⟨_, _, r', _, _, hr', _⟩ := src_facts hy
  rw [name_at hr, name_at hr'] at h1
  refine h ⟨hown _ _ r r' hr hr' ?_, ?_⟩
  · rw [ByteArray.ext (Array.ext' h1)]
  · exact ByteArray.ext (Array.ext' h2)

theorem recL_apart {R : List RuleD} {K : List ZK} {ptrs : List Nat} (hpl : ptrs.length = K.length) (hone : ∀ r ∈ R, ∃ s, r.sevs = [s]) (hown : Own R) {Y : List (Key × Value)} {D : List AcR} (h : RecL R K ptrs Y D) (hY : Y.Pairwise fun p q => Key.same p.1 q.1 = false) : D.Pairwise apartK := by
  induction h with
  | nil => exact List.Pairwise.nil
  | skip _ _ ih => exact ih (List.pairwise_append.1 hY).1
  | @take Y D p a hrec hl hr ih =>
    obtain ⟨hY1, _, hY3⟩ := List.pairwise_append.1 hY
    refine List.pairwise_append.2 ⟨ih hY1, by simp, fun a' ha' b hb => ?_⟩
    obtain rfl : b = a := by simpa using hb
    obtain ⟨p', hp', hl', hr'⟩ := hrec.back a' ha'
    obtain ⟨i, s, hk, hv, hq⟩ := rc_rec hpl hone hr hl
    obtain ⟨i', s', hk', hv', hq'⟩ := rc_rec hpl hone hr' hl'
    rw [hv, hv']
    refine rec_apart hown hq' hq ?_
    rintro ⟨e1, e2⟩
    simp only at e1 e2
    have := hY3 p' hp' p (by simp)
    rw [hk, hk', e1, e2] at this
    have h2 := (same_iff (⟨(i : Int), 0, s⟩ : Key) ⟨(i : Int), 0, s⟩).2 rfl
    rw [h2] at this
    cases this

theorem act_eq {R : List RuleD} {K : List ZK} {ptrs : List Nat} (hpl : ptrs.length = K.length) (hone : ∀ r ∈ R, ∃ s, r.sevs = [s]) (hown : Own R) {Y : List (Key × Value)} (hY : Y.Perm (alMap R (K.zip ptrs))) {D0 D : List AcR} (hrec : RecL R K ptrs Y D0) (hp : D.Perm D0) (hs : SortedL D)
    {E : List EN} (hE : E.Perm ((modL R K).map (fil R K))) (hsE : SortedTo R E.length E) : D = E.map (recOf R K) := by
  have hmod := modL_ok R K
  have hzl : (K.zip ptrs).length = K.length := by simp; omega
  -- the model's entries
  have hent : ∀ e ∈ E, ∃ e0 ∈ modL R K, e = fil R K e0 := fun e he => by
    obtain ⟨e0, h1, h2⟩ := List.mem_map.1 (hE.mem_iff.1 he)
    exact ⟨e0, h1, h2.symm⟩
  have hapE : E.Pairwise fun x y => ¬ (x.rule = y.rule ∧ x.sensor = y.sensor) := by
    refine hE.symm.pairwise ?_ ?_
    · exact List.pairwise_map.2 hmod.once
    · intro x y h ⟨h1, h2⟩; exact h ⟨h1.symm, h2.symm⟩
  have hYp : Y.Pairwise fun p q => Key.same p.1 q.1 = false := by
    refine hY.symm.pairwise ?_ ?_
    · rw [alMap_X]
      exact List.pairwise_map.2 (gmap_keyed Key.same _ same_iff (K.zip ptrs))
    · intro x y h
      cases hh : Key.same y.1 x.1 with
      | false => rfl
      | true =>
        have e := (same_iff _ _).1 hh
        rw [e, (same_iff _ _).2 rfl] at h
        cases h
  refine sorted_mem (ltOf cfA) (fun x y h => ?_) _ _ (fun a => ?_) ?_ ?_
  · cases h2 : ltOf cfA y x with
    | false => rfl
    | true => have := swoA.trans x y x h h2; rw [swoA.irrefl] at this; cases this
  · constructor
    · intro ha
      obtain ⟨p, hpY, hl, hr⟩ := hrec.back a (hp.mem_iff.1 ha)
      obtain ⟨i, s, hk, hv, q, hq, hst, hsn⟩ := rc_rec hpl hone hr hl
      obtain ⟨e, he, h1, h2⟩ := hmod.forth q hq i hst
      refine List.mem_map.2 ⟨fil R K e, hE.mem_iff.2 (List.mem_map.2 ⟨e, he, rfl⟩), ?_⟩
      rw [hv]
      unfold fil srcOf sevOf
      simp only
      rw [h1, h2, hsn]
    · intro ha
      obtain ⟨e3, he3, rfl⟩ := List.mem_map.1 ha
      obtain ⟨e, he, rfl⟩ := hent e3 he3
      obtain ⟨a0, za, r, h1, h2, h3, h4⟩ := src_facts (hmod.back e he)
      obtain ⟨hal, hza⟩ := List.getElem?_eq_some_iff.1 h2
      have hg2 := gget_gmap Key.same (fun x : ZK × Nat => keyA R x.1) same_iff (K.zip ptrs) K.length (by omega) ⟨(e.rule : Int), 0, e.sensor⟩
      rw [List.take_of_length_le (by omega), lastA R K ptrs hpl e.rule 0 e.sensor (by omega)] at hg2
      have h1' : lastTo (alarmAt R K e.rule 0 e.sensor) K.length = a0 := h1
      rw [h1', if_neg (by omega), Int.toNat_natCast, List.getElem?_eq_getElem (by omega)] at hg2
      have hmem := gget_some Key.same same_iff _ _ _ hg2
      have hY2 : alP (⟨(e.rule : Int), 0, e.sensor⟩, (K.zip ptrs)[a0]) ∈ Y := by
        refine hY.mem_iff.2 ?_
        rw [alMap_X]
        exact List.mem_map.2 ⟨_, hmem, rfl⟩
      obtain ⟨a', ha', hrc⟩ := hrec.forth _ hY2 rfl
      obtain ⟨i, s, hk, hv, _⟩ := rc_rec hpl hone hrc rfl
      have hk : (⟨(e.rule : Int), 0, e.sensor⟩ : Key) = ⟨(i : Int), 0, s⟩ := hk
      injection hk with e1 e2 e3
      have e1 : e.rule = i := by omega
      refine hp.mem_iff.2 ?_
      have : recOf R K (fil R K e) = a' := by
        rw [hv]
        unfold fil srcOf sevOf
        simp only
        rw [e1, e3]
      rw [this]
      exact ha'
  · have hapD : D.Pairwise apartK := by
      refine hp.symm.pairwise (recL_apart hpl hone hown hrec hYp) ?_
      intro x y h ⟨h1, h2⟩; exact h ⟨h1.symm, h2.symm⟩
    refine pair_of_idx D fun i j a b ha hb hij => lt_of_apart (hs i j a b ha hb hij) ?_
    obtain ⟨hi, rfl⟩ := List.getElem?_eq_some_iff.1 ha
    obtain ⟨hj, rfl⟩ := List.getElem?_eq_some_iff.1 hb
    exact (List.pairwise_iff_getElem.1 hapD) i j hi hj hij
  · refine pair_of_idx _ fun i j a b ha hb hij => ?_
    rw [List.getElem?_map] at ha hb
    obtain ⟨x, hx, rfl⟩ := Option.map_eq_some_iff.1 ha
    obtain ⟨y, hy, rfl⟩ := Option.map_eq_some_iff.1 hb
    obtain ⟨hi, hxv⟩ := List.getElem?_eq_some_iff.1 hx
    obtain ⟨hj, hyv⟩ := List.getElem?_eq_some_iff.1 hy
    have hap := (List.pairwise_iff_getElem.1 hapE) i j hi hj hij
    rw [hxv, hyv] at hap
    have hlt := hsE i j x y hij hj hx hy
    obtain ⟨x0, hx0, rfl⟩ := hent x (List.mem_of_getElem? hx)
    obtain ⟨y0, hy0, rfl⟩ := hent y (List.mem_of_getElem? hy)
    refine lt_of_apart ?_ (rec_apart hown (hmod.back x0 hx0) (hmod.back y0 hy0) hap)
    rw [enLess_eq] at hlt
    rw [← hlt]
    refine cfA_congr rfl ?_ rfl ?_
    · exact rec_sensor (hmod.back y0 hy0)
    · exact rec_sensor (hmod.back x0 hx0)
end Go.Proofs.Qxb6605676a.Kz
