import Derived.Test.Qxb6605676aKz60
namespace Go.Proofs.Qxb6605676a.Kz
set_option linter.unusedVariables false
set_option linter.unusedSimpArgs false
open Go.RowKit Go.Proofs.Qxb6605676a.Mp Go.Proofs.Qxb6605676a.Tm Go.Proofs.Qxb6605676a.En

/-- The operations that are left. -/
theorem ready21 (l : Array Bool) (i : Nat) (h : i ∈ Region.ready .any ops21 l) : i < 23 := by
  obtain ⟨_, o, ho, _⟩ := mem_ready.1 h
  have := (Array.getElem?_eq_some_iff.1 ho).1
  have hs : ops21.size = 23 := by kernel_rfl
  omega

theorem dep21 (l : Array Bool) (i j : Nat) (h : i ∈ Region.ready .any ops21 l) (hd : (match ops21[i]? with | some o => o.after.any (fun e => Region.binds .any e && e.on == j) | none => false) = true) : l.getD j false = true := by
  obtain ⟨_, o, ho, hall⟩ := mem_ready.1 h
  rw [ho] at hd
  obtain ⟨k, hk, hx⟩ := Array.any_eq_true.1 hd
  have he := Array.getElem_mem hk
  generalize o.after[k] = e at *
  simp only [Bool.and_eq_true, beq_iff_eq] at hx
  rw [← hx.2]
  exact hall e he hx.1
theorem up21 (l : Array Bool) (i : Nat) (hi : l.getD i true = false) (hd : ∀ o, ops21[i]? = some o → ∀ e ∈ o.after, Region.binds .any e = true → l.getD e.on false = true) (hlt : i < 23) : Region.ready .any ops21 l ≠ [] := by
  have hs : ops21.size = 23 := by kernel_rfl
  have : i ∈ Region.ready .any ops21 l := mem_ready.2 ⟨hi, ops21[i]'(by omega), Array.getElem?_eq_getElem (by omega), hd _ (Array.getElem?_eq_getElem (by omega))⟩
  intro h
  rw [h] at this
  cases this
theorem on21_4 (o : Oper) (ho : ops21[4]? = some o) (e : Edge) (he : e ∈ o.after) : e.on ∈ [3] := by
  have h : (match ops21[4]? with | some o => o.after.all (fun e => [3].contains e.on) | none => true) = true := by kernel_rfl
  rw [ho] at h
  exact List.mem_of_elem_eq_true (Array.all_eq_true_iff_forall_mem.1 h e he)
theorem on21_5 (o : Oper) (ho : ops21[5]? = some o) (e : Edge) (he : e ∈ o.after) : e.on ∈ [0, 1, 4] := by
  have h : (match ops21[5]? with | some o => o.after.all (fun e => [0, 1, 4].contains e.on) | none => true) = true := by kernel_rfl
  rw [ho] at h
  exact List.mem_of_elem_eq_true (Array.all_eq_true_iff_forall_mem.1 h e he)
theorem on21_10 (o : Oper) (ho : ops21[10]? = some o) (e : Edge) (he : e ∈ o.after) : e.on ∈ [9] := by
  have h : (match ops21[10]? with | some o => o.after.all (fun e => [9].contains e.on) | none => true) = true := by kernel_rfl
  rw [ho] at h
  exact List.mem_of_elem_eq_true (Array.all_eq_true_iff_forall_mem.1 h e he)
theorem on21_11 (o : Oper) (ho : ops21[11]? = some o) (e : Edge) (he : e ∈ o.after) : e.on ∈ [6, 7, 10] := by
  have h : (match ops21[11]? with | some o => o.after.all (fun e => [6, 7, 10].contains e.on) | none => true) = true := by kernel_rfl
  rw [ho] at h
  exact List.mem_of_elem_eq_true (Array.all_eq_true_iff_forall_mem.1 h e he)
theorem on21_12 (o : Oper) (ho : ops21[12]? = some o) (e : Edge) (he : e ∈ o.after) : e.on ∈ [5, 11] := by
  have h : (match ops21[12]? with | some o => o.after.all (fun e => [5, 11].contains e.on) | none => true) = true := by kernel_rfl
  rw [ho] at h
  exact List.mem_of_elem_eq_true (Array.all_eq_true_iff_forall_mem.1 h e he)
theorem on21_13 (o : Oper) (ho : ops21[13]? = some o) (e : Edge) (he : e ∈ o.after) : e.on ∈ [] := by
  have h : (match ops21[13]? with | some o => o.after.all (fun e => [].contains e.on) | none => true) = true := by kernel_rfl
  rw [ho] at h
  exact List.mem_of_elem_eq_true (Array.all_eq_true_iff_forall_mem.1 h e he)
theorem on21_15 (o : Oper) (ho : ops21[15]? = some o) (e : Edge) (he : e ∈ o.after) : e.on ∈ [] := by
  have h : (match ops21[15]? with | some o => o.after.all (fun e => [].contains e.on) | none => true) = true := by kernel_rfl
  rw [ho] at h
  exact List.mem_of_elem_eq_true (Array.all_eq_true_iff_forall_mem.1 h e he)
theorem on21_16 (o : Oper) (ho : ops21[16]? = some o) (e : Edge) (he : e ∈ o.after) : e.on ∈ [13, 14, 15] := by
  have h : (match ops21[16]? with | some o => o.after.all (fun e => [13, 14, 15].contains e.on) | none => true) = true := by kernel_rfl
  rw [ho] at h
  exact List.mem_of_elem_eq_true (Array.all_eq_true_iff_forall_mem.1 h e he)
theorem on21_18 (o : Oper) (ho : ops21[18]? = some o) (e : Edge) (he : e ∈ o.after) : e.on ∈ [] := by
  have h : (match ops21[18]? with | some o => o.after.all (fun e => [].contains e.on) | none => true) = true := by kernel_rfl
  rw [ho] at h
  exact List.mem_of_elem_eq_true (Array.all_eq_true_iff_forall_mem.1 h e he)
theorem on21_19 (o : Oper) (ho : ops21[19]? = some o) (e : Edge) (he : e ∈ o.after) : e.on ∈ [13, 17, 18] := by
  have h : (match ops21[19]? with | some o => o.after.all (fun e => [13, 17, 18].contains e.on) | none => true) = true := by kernel_rfl
  rw [ho] at h
  exact List.mem_of_elem_eq_true (Array.all_eq_true_iff_forall_mem.1 h e he)
theorem on21_20 (o : Oper) (ho : ops21[20]? = some o) (e : Edge) (he : e ∈ o.after) : e.on ∈ [13, 14, 15, 16, 17, 18, 19] := by
  have h : (match ops21[20]? with | some o => o.after.all (fun e => [13, 14, 15, 16, 17, 18, 19].contains e.on) | none => true) = true := by kernel_rfl
  rw [ho] at h
  exact List.mem_of_elem_eq_true (Array.all_eq_true_iff_forall_mem.1 h e he)
/-- Something is ready as long as not all have come up. -/
theorem some21 : ∀ (b4 b5 b10 b11 b12 b13 b15 b16 b18 b19 b20 : Bool), (b4 && b5 && b10 && b11 && b12 && b13 && b15 && b16 && b18 && b19 && b20) = false → Region.ready .any ops21 #[true, true, true, true, b4, b5, true, true, true, true, b10, b11, b12, b13, true, b15, b16, true, b18, b19, b20, false, false] ≠ [] := by
  intro b4 b5 b10 b11 b12 b13 b15 b16 b18 b19 b20 hall
  cases h4 : b4 with
  | false =>
    refine up21 _ 4 (by rfl) (fun o ho e he hb => ?_) (by decide)
    have hon : e.on ∈ [3] := on21_4 o ho e he
    simp only [List.mem_cons, List.not_mem_nil, or_false] at hon
    first | exact hon.elim | (rcases hon with h | h | h | h | h | h | h <;> rw [h] <;> rfl) | (rcases hon with h | h | h <;> rw [h] <;> rfl) | (rcases hon with h | h <;> rw [h] <;> rfl) | (rw [hon]; rfl)
  | true =>
  cases h10 : b10 with
  | false =>
    refine up21 _ 10 (by rfl) (fun o ho e he hb => ?_) (by decide)
    have hon : e.on ∈ [9] := on21_10 o ho e he
    simp only [List.mem_cons, List.not_mem_nil, or_false] at hon
    first | exact hon.elim | (rcases hon with h | h | h | h | h | h | h <;> rw [h] <;> rfl) | (rcases hon with h | h | h <;> rw [h] <;> rfl) | (rcases hon with h | h <;> rw [h] <;> rfl) | (rw [hon]; rfl)
  | true =>
  cases h5 : b5 with
  | false =>
    refine up21 _ 5 (by rfl) (fun o ho e he hb => ?_) (by decide)
    have hon : e.on ∈ [0, 1, 4] := on21_5 o ho e he
    simp only [List.mem_cons, List.not_mem_nil, or_false] at hon
    first | exact hon.elim | (rcases hon with h | h | h | h | h | h | h <;> rw [h] <;> rfl) | (rcases hon with h | h | h <;> rw [h] <;> rfl) | (rcases hon with h | h <;> rw [h] <;> rfl) | (rw [hon]; rfl)
  | true =>
  cases h11 : b11 with
  | false =>
    refine up21 _ 11 (by rfl) (fun o ho e he hb => ?_) (by decide)
    have hon : e.on ∈ [6, 7, 10] := on21_11 o ho e he
    simp only [List.mem_cons, List.not_mem_nil, or_false] at hon
    first | exact hon.elim | (rcases hon with h | h | h | h | h | h | h <;> rw [h] <;> rfl) | (rcases hon with h | h | h <;> rw [h] <;> rfl) | (rcases hon with h | h <;> rw [h] <;> rfl) | (rw [hon]; rfl)
  | true =>
  cases h12 : b12 with
  | false =>
    refine up21 _ 12 (by rfl) (fun o ho e he hb => ?_) (by decide)
    have hon : e.on ∈ [5, 11] := on21_12 o ho e he
    simp only [List.mem_cons, List.not_mem_nil, or_false] at hon
    first | exact hon.elim | (rcases hon with h | h | h | h | h | h | h <;> rw [h] <;> rfl) | (rcases hon with h | h | h <;> rw [h] <;> rfl) | (rcases hon with h | h <;> rw [h] <;> rfl) | (rw [hon]; rfl)
  | true =>
  cases h13 : b13 with
  | false =>
    refine up21 _ 13 (by rfl) (fun o ho e he hb => ?_) (by decide)
    exact absurd (on21_13 o ho e he) (by simp)
  | true =>
  cases h15 : b15 with
  | false =>
    refine up21 _ 15 (by rfl) (fun o ho e he hb => ?_) (by decide)
    exact absurd (on21_15 o ho e he) (by simp)
  | true =>
  cases h18 : b18 with
  | false =>
    refine up21 _ 18 (by rfl) (fun o ho e he hb => ?_) (by decide)
    exact absurd (on21_18 o ho e he) (by simp)
  | true =>
  cases h16 : b16 with
  | false =>
    refine up21 _ 16 (by rfl) (fun o ho e he hb => ?_) (by decide)
    have hon : e.on ∈ [13, 14, 15] := on21_16 o ho e he
    simp only [List.mem_cons, List.not_mem_nil, or_false] at hon
    first | exact hon.elim | (rcases hon with h | h | h | h | h | h | h <;> rw [h] <;> rfl) | (rcases hon with h | h | h <;> rw [h] <;> rfl) | (rcases hon with h | h <;> rw [h] <;> rfl) | (rw [hon]; rfl)
  | true =>
  cases h19 : b19 with
  | false =>
    refine up21 _ 19 (by rfl) (fun o ho e he hb => ?_) (by decide)
    have hon : e.on ∈ [13, 17, 18] := on21_19 o ho e he
    simp only [List.mem_cons, List.not_mem_nil, or_false] at hon
    first | exact hon.elim | (rcases hon with h | h | h | h | h | h | h <;> rw [h] <;> rfl) | (rcases hon with h | h | h <;> rw [h] <;> rfl) | (rcases hon with h | h <;> rw [h] <;> rfl) | (rw [hon]; rfl)
  | true =>
  cases h20 : b20 with
  | false =>
    refine up21 _ 20 (by rfl) (fun o ho e he hb => ?_) (by decide)
    have hon : e.on ∈ [13, 14, 15, 16, 17, 18, 19] := on21_20 o ho e he
    simp only [List.mem_cons, List.not_mem_nil, or_false] at hon
    first | exact hon.elim | (rcases hon with h | h | h | h | h | h | h <;> rw [h] <;> rfl) | (rcases hon with h | h | h <;> rw [h] <;> rfl) | (rcases hon with h | h <;> rw [h] <;> rfl) | (rw [hon]; rfl)
  | true =>
  simp [*] at hall
end Go.Proofs.Qxb6605676a.Kz
