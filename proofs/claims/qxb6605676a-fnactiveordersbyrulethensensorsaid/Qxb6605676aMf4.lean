import Derived.Test.Qxb6605676aMf1
import Derived.Test.Qxb6605676aMf2
import Derived.Test.Qxb6605676aMf3
namespace Go.Proofs.Qxb6605676a.En
set_option linter.unusedVariables false
set_option linter.unusedSimpArgs false
open Go.RowKit Go.Proofs.Qxb6605676a.Mp Go.Proofs.Qxb6605676a.Tm
open Go.ChangeMaps (setBlock heap_setBlock_same)

/-- What mayFire answers. -/
def mayB (f d : Int) (ok : Bool) (ts x : Int) : Bool := decide (f ≤ d) && !(ok && decide (ts < x))

section
variable {w : World} {mb rb nr : Nat} {rs : Array Value} {A C KB : List (Key × Value)} {LS SB : List ((ByteArray × ByteArray) × Value)}

theorem mayFire_any (E : Eng w mb rb nr rs A C KB LS SB) (r l : Int) (s : ByteArray) (f : Int) (p : Nat) (ab ao : Nat) (since ts x : Int) (ok : Bool)
    (hf : w.cell? ⟨rb, p + 3, none⟩ = some (.int .i64 f))
    (a1 : w.cell? ⟨ab, ao + 1, none⟩ = some (.int .u64 (since % 1000000000))) (a2 : w.cell? ⟨ab, ao + 2, none⟩ = some (.int .i64 (since / 1000000000))) (a3 : w.cell? ⟨ab, ao + 3, none⟩ = some (.pointer none))
    (hg : (get Key.same ⟨r, l, s⟩ C).getD (T 0) = T x) (hok : (get Key.same ⟨r, l, s⟩ C).isSome = ok)
    (t1 : -4611686018427387904 ≤ ts) (t2 : ts ≤ 4611686018427387904) (s1 : -4611686018427387904 ≤ since) (s2 : since ≤ 4611686018427387904) (d1 : ts - since ≤ 9223372036854775807) :
    Calls Try.prog 77 #[.pointer (some ⟨mb + 5, 0, none⟩), .agg #[.int .i64 r, .int .i64 l, .string s], .pointer (some ⟨rb, p, none⟩), .pointer (some ⟨ab, ao, none⟩), T ts] w fun e w' => e = .returned (.bool (mayB f (ts - since) ok ts x)) ∧ Below w.heap.size w w' := by
  by_cases hfs : f ≤ ts - since
  · cases ok
    · refine (mayFire_idle E r l s f p ab ao since ts x hf a1 a2 a3 hg hok t1 t2 s1 s2 d1 hfs).mono ?_
      rintro e w' ⟨rfl, hb⟩
      exact ⟨ret_bool (by simp [mayB, hfs]), hb⟩
    · refine (mayFire_cool E r l s f p ab ao since ts x hf a1 a2 a3 hg hok t1 t2 s1 s2 d1 hfs).mono ?_
      rintro e w' ⟨rfl, hb⟩
      exact ⟨ret_bool (by simp [mayB, hfs]), hb⟩
  · have hd : decide (f ≤ ts - since) = false := by simpa using hfs
    refine (mayFire_early E r l s f p ab ao since ts x ok hf a1 a2 a3 hg hok t1 t2 s1 s2 d1 hd).mono ?_
    rintro e w' ⟨rfl, hb⟩
    exact ⟨ret_bool (by simp [mayB, hd]), hb⟩

set_option maxHeartbeats 4000000 in
set_option maxRecDepth 10000 in
theorem zzmayFire_any {rv : Array Value} (E : Eng w mb rb 1 rv A C KB LS SB) (l : Int) (s : ByteArray) (f since ts x : Int) (ok : Bool) (hf : rv[3]? = some (.int .i64 f))
    (hg : (get Key.same ⟨0, l, s⟩ C).getD (T 0) = T x) (hok : (get Key.same ⟨0, l, s⟩ C).isSome = ok)
    (t1 : -4611686018427387904 ≤ ts) (t2 : ts ≤ 4611686018427387904) (s1 : -4611686018427387904 ≤ since) (s2 : since ≤ 4611686018427387904) (d1 : ts - since ≤ 9223372036854775807) :
    Calls Try.prog 53 #[.pointer (some ⟨mb + 5, 0, none⟩), .int .i64 l, .string s, .int .i64 since, .int .i64 ts] w fun e w' => e = .returned (.bool (mayB f (ts - since) ok ts x)) ∧ Below w.heap.size w w' := by
  obtain ⟨c0, _, _, _, _, _⟩ := E.cells
  have hlt := E.lt
  have hcf : w.cell? ⟨rb, 0 + 3, none⟩ = some (.int .i64 f) := by simp [World.cell?, E.rul, hf]
  have hrlt : rb < w.heap.size := World.block_lt_of_cell? w _ hcf
  have HT1 : Hid (∀ W : World, Calls Try.prog 55 #[.int .i64 since] W fun e w' => e = .returned (.agg #[.int .u64 (since % 1000000000), .int .i64 (since / 1000000000), .pointer none]) ∧ Below W.heap.size W w') := fun W => zztime_any since W (by omega) (by omega)
  have HT2 : Hid (∀ W : World, Calls Try.prog 55 #[.int .i64 ts] W fun e w' => e = .returned (.agg #[.int .u64 (ts % 1000000000), .int .i64 (ts / 1000000000), .pointer none]) ∧ Below W.heap.size W w') := fun W => zztime_any ts W (by omega) (by omega)
  have HM : Hid (∀ (W : World) (ab : Nat), Below w.heap.size w W → W.cell? ⟨ab, 0 + 1, none⟩ = some (.int .u64 (since % 1000000000)) → W.cell? ⟨ab, 0 + 2, none⟩ = some (.int .i64 (since / 1000000000)) → W.cell? ⟨ab, 0 + 3, none⟩ = some (.pointer none) →
      Calls Try.prog 77 #[.pointer (some ⟨mb + 5, 0, none⟩), .agg #[.int .i64 0, .int .i64 l, .string s], .pointer (some ⟨rb, 0, none⟩), .pointer (some ⟨ab, 0, none⟩), .agg #[.int .u64 (ts % 1000000000), .int .i64 (ts / 1000000000), .pointer none]] W fun e w' => e = .returned (.bool (mayB f (ts - since) ok ts x)) ∧ Below W.heap.size W w') := by
    intro W ab hB k1 k2 k3
    exact mayFire_any (E.below hB) 0 l s f 0 ab 0 since ts x ok ((hB.cell (p := ⟨rb, 0 + 3, none⟩) hrlt).trans hcf) k1 k2 k3 hg hok t1 t2 s1 s2 d1
  clear E hg hok hcf hf
  go_enter Try.func53, Try.ntmps53
  go_wp2
  refine wp_region_held_drew (S := (fun W => Below w.heap.size w W ∧ W.cell? ⟨mb + 5, 0, none⟩ = some (.slice (some ⟨rb, 0, none⟩) 1 1))) (by kernel_rfl) ⟨(Below.refl _ _).drew, c0⟩ (fun hHeld => ?_)
  refine wpAnyH_take (i := 0) (v := ?_) rfl (by kernel_rfl) (by kernel_rfl) (by kernel_rfl) (fun _ _ _ h => h) (Or.inl ⟨by rfl, ?_⟩) hHeld ?_
  rotate_left
  · intro w0 hSw; (try dsimp only at hSw); go_simp <;> with_reducible rfl
  try simp only [Act.put, List.getElem_toArray, List.getElem_cons_zero, List.getElem_cons_succ, List.setIfInBounds_toArray, List.set_cons_zero, List.set_cons_succ]
  refine wpAnyH_take (i := 1) (v := ?_) rfl (by kernel_rfl) (by kernel_rfl) (by kernel_rfl) (fun _ _ _ h => h) (Or.inl ⟨by rfl, ?_⟩) hHeld ?_
  rotate_left
  · intro w0 hSw; (try dsimp only at hSw); go_simp <;> with_reducible rfl
  try simp only [Act.put, List.getElem_toArray, List.getElem_cons_zero, List.getElem_cons_succ, List.setIfInBounds_toArray, List.set_cons_zero, List.set_cons_succ]
  refine wpAnyH_take (i := 2) (v := ?_) rfl (by kernel_rfl) (by kernel_rfl) (by kernel_rfl) (fun _ _ _ h => h) (Or.inl ⟨by rfl, ?_⟩) hHeld ?_
  rotate_left
  · intro w0 hSw; (try dsimp only at hSw); go_simp <;> with_reducible rfl
  try simp only [Act.put, List.getElem_toArray, List.getElem_cons_zero, List.getElem_cons_succ, List.setIfInBounds_toArray, List.set_cons_zero, List.set_cons_succ]
  refine wpAnyH_take (i := 3) (v := ?_) rfl (by kernel_rfl) (by kernel_rfl) (by kernel_rfl) (fun _ _ _ h => h) (Or.inl ⟨by rfl, ?_⟩) hHeld ?_
  rotate_left
  · intro w0 hSw; (try dsimp only at hSw); go_simp <;> with_reducible rfl
  try simp only [Act.put, List.getElem_toArray, List.getElem_cons_zero, List.getElem_cons_succ, List.setIfInBounds_toArray, List.set_cons_zero, List.set_cons_succ]
  refine wpAnyH_take (i := 4) (v := ?_) rfl (by kernel_rfl) (by kernel_rfl) (by kernel_rfl) (fun _ _ _ h => h) (Or.inl ⟨by rfl, ?_⟩) hHeld ?_
  rotate_left
  · intro w0 hSw; (try dsimp only at hSw); go_simp <;> with_reducible rfl
  try simp only [Act.put, List.getElem_toArray, List.getElem_cons_zero, List.getElem_cons_succ, List.setIfInBounds_toArray, List.set_cons_zero, List.set_cons_succ]
  refine wpAnyH_take (i := 5) (v := ?_) rfl (by kernel_rfl) (by kernel_rfl) (by kernel_rfl) (fun _ _ _ h => h) (Or.inl ⟨by rfl, ?_⟩) hHeld ?_
  rotate_left
  · intro w0 hSw; (try dsimp only at hSw); go_simp <;> with_reducible rfl
  try simp only [Act.put, List.getElem_toArray, List.getElem_cons_zero, List.getElem_cons_succ, List.setIfInBounds_toArray, List.set_cons_zero, List.set_cons_succ]
  refine wpAnyH_take (i := 6) (v := ?_) rfl (by kernel_rfl) (by kernel_rfl) (by kernel_rfl) (fun _ _ _ h => h) (Or.inl ⟨by rfl, ?_⟩) hHeld ?_
  rotate_left
  · intro w0 hSw; (try dsimp only at hSw); go_simp <;> with_reducible rfl
  try simp only [Act.put, List.getElem_toArray, List.getElem_cons_zero, List.getElem_cons_succ, List.setIfInBounds_toArray, List.set_cons_zero, List.set_cons_succ]
  refine wpAnyH_take (i := 7) (v := ?_) rfl (by kernel_rfl) (by kernel_rfl) (by kernel_rfl) (fun _ _ _ h => h) (Or.inl ⟨by rfl, ?_⟩) hHeld ?_
  rotate_left
  · intro w0 hSw; (try dsimp only at hSw); go_simp <;> with_reducible rfl
  try simp only [Act.put, List.getElem_toArray, List.getElem_cons_zero, List.getElem_cons_succ, List.setIfInBounds_toArray, List.set_cons_zero, List.set_cons_succ]
  refine wpAnyH_take (i := 8) (v := ?_) rfl (by kernel_rfl) (by kernel_rfl) (by kernel_rfl) (fun _ _ _ h => h) (Or.inl ⟨by rfl, ?_⟩) hHeld ?_
  rotate_left
  · intro w0 hSw; (try dsimp only at hSw); go_simp <;> with_reducible rfl
  try simp only [Act.put, List.getElem_toArray, List.getElem_cons_zero, List.getElem_cons_succ, List.setIfInBounds_toArray, List.set_cons_zero, List.set_cons_succ]
  refine wpAnyH_take (i := 9) (v := ?_) rfl (by kernel_rfl) (by kernel_rfl) (by kernel_rfl) (fun _ _ _ h => h) (Or.inl ⟨by rfl, ?_⟩) hHeld ?_
  rotate_left
  · intro w0 hSw; (try dsimp only at hSw); go_simp <;> with_reducible rfl
  try simp only [Act.put, List.getElem_toArray, List.getElem_cons_zero, List.getElem_cons_succ, List.setIfInBounds_toArray, List.set_cons_zero, List.set_cons_succ]
  refine wpAnyH_take (i := 13) (v := ?_) rfl (by kernel_rfl) (by kernel_rfl) (by kernel_rfl) (fun _ _ _ h => h) (Or.inl ⟨by rfl, ?_⟩) hHeld ?_
  rotate_left
  · intro w0 hSw; (try dsimp only at hSw); go_simp <;> with_reducible rfl
  try simp only [Act.put, List.getElem_toArray, List.getElem_cons_zero, List.getElem_cons_succ, List.setIfInBounds_toArray, List.set_cons_zero, List.set_cons_succ]
  refine wpAnyH_ready (rs := [10]) (by kernel_rfl) (by simp) ?_
  refine AllReadyH.cons rfl (fun K hK => ?_) AllReadyH.nil
  go_simp
  refine (HT1.out _).mono ?_; rintro e w1 ⟨rfl, hb1⟩
  refine hK.out _ _ ⟨hHeld.1.trans (hb1.mono hHeld.1.size), (hb1.cell (p := ⟨mb + 5, 0, none⟩) (Nat.lt_of_lt_of_le hlt hHeld.1.size)).trans hHeld.2⟩ (fun hHeld => ?_)
  clear hK K
  try simp only [Act.put, List.getElem_toArray, List.getElem_cons_zero, List.getElem_cons_succ, List.setIfInBounds_toArray, List.set_cons_zero, List.set_cons_succ]
  refine wpAnyH_take (i := 11) (v := ?_) rfl (by kernel_rfl) (by kernel_rfl) (by kernel_rfl) (fun _ _ _ h => h) (Or.inl ⟨by rfl, ?_⟩) hHeld ?_
  rotate_left
  · intro w0 hSw; (try dsimp only at hSw); go_simp <;> with_reducible rfl
  try simp only [Act.put, List.getElem_toArray, List.getElem_cons_zero, List.getElem_cons_succ, List.setIfInBounds_toArray, List.set_cons_zero, List.set_cons_succ]
  refine wpAnyH_ready (rs := [12, 14]) (by kernel_rfl) (by simp) ?_
  refine AllReadyH.cons rfl (fun K hK => ?_) (AllReadyH.cons rfl (fun K hK => ?_) AllReadyH.nil)
  · go_simp
    refine hK.out _ _ ⟨hHeld.1.alloc hHeld.1.size _, (World.cell?_alloc_lt _ _ _ (Nat.lt_of_lt_of_le hlt hHeld.1.size)).trans hHeld.2⟩ (fun hHeld => ?_)
    clear hK K
    try simp only [Act.put, List.getElem_toArray, List.getElem_cons_zero, List.getElem_cons_succ, List.setIfInBounds_toArray, List.set_cons_zero, List.set_cons_succ]
    refine wpAnyH_ready (rs := [14]) (by kernel_rfl) (by simp) ?_
    refine AllReadyH.cons rfl (fun K hK => ?_) AllReadyH.nil
    go_simp
    refine (HT2.out _).mono ?_; rintro e w2 ⟨rfl, hb2⟩
    refine hK.out _ _ ⟨hHeld.1.trans (hb2.mono hHeld.1.size), (hb2.cell (p := ⟨mb + 5, 0, none⟩) (Nat.lt_of_lt_of_le hlt hHeld.1.size)).trans hHeld.2⟩ (fun hHeld => ?_)
    clear hK K
    try simp only [Act.put, List.getElem_toArray, List.getElem_cons_zero, List.getElem_cons_succ, List.setIfInBounds_toArray, List.set_cons_zero, List.set_cons_succ]
    refine wpAnyH_ready (rs := [15]) (by kernel_rfl) (by simp) ?_
    refine AllReadyH.cons rfl (fun K hK => ?_) AllReadyH.nil
    go_simp
    refine (HM.out _ _ hHeld.1 ((hb2.cell (p := ⟨w1.heap.size, 0 + 1, none⟩) (by simp)).trans (by simp)) ((hb2.cell (p := ⟨w1.heap.size, 0 + 2, none⟩) (by simp)).trans (by simp)) ((hb2.cell (p := ⟨w1.heap.size, 0 + 3, none⟩) (by simp)).trans (by simp))).mono ?_; rintro e w3 ⟨rfl, hb3⟩
    refine hK.out _ _ ⟨hHeld.1.trans (hb3.mono hHeld.1.size), (hb3.cell (p := ⟨mb + 5, 0, none⟩) (Nat.lt_of_lt_of_le hlt hHeld.1.size)).trans hHeld.2⟩ (fun hHeld => ?_)
    clear hK K
    try simp only [Act.put, List.getElem_toArray, List.getElem_cons_zero, List.getElem_cons_succ, List.setIfInBounds_toArray, List.set_cons_zero, List.set_cons_succ]
    refine wpAnyH_take (i := 16) (v := ?_) rfl (by kernel_rfl) (by kernel_rfl) (by kernel_rfl) (fun _ _ _ h => h) (Or.inl ⟨by rfl, ?_⟩) hHeld ?_
    rotate_left
    · intro w0 hSw; (try dsimp only at hSw); go_simp <;> with_reducible rfl
    try simp only [Act.put, List.getElem_toArray, List.getElem_cons_zero, List.getElem_cons_succ, List.setIfInBounds_toArray, List.set_cons_zero, List.set_cons_succ]
    refine wpAnyH_done (by kernel_rfl) ?_ _
    go_wp2
    go_ret
    exact ⟨rfl, hHeld.1⟩
  · go_simp
    refine (HT2.out _).mono ?_; rintro e w2 ⟨rfl, hb2⟩
    refine hK.out _ _ ⟨hHeld.1.trans (hb2.mono hHeld.1.size), (hb2.cell (p := ⟨mb + 5, 0, none⟩) (Nat.lt_of_lt_of_le hlt hHeld.1.size)).trans hHeld.2⟩ (fun hHeld => ?_)
    clear hK K
    try simp only [Act.put, List.getElem_toArray, List.getElem_cons_zero, List.getElem_cons_succ, List.setIfInBounds_toArray, List.set_cons_zero, List.set_cons_succ]
    refine wpAnyH_ready (rs := [12]) (by kernel_rfl) (by simp) ?_
    refine AllReadyH.cons rfl (fun K hK => ?_) AllReadyH.nil
    go_simp
    refine hK.out _ _ ⟨hHeld.1.alloc hHeld.1.size _, (World.cell?_alloc_lt _ _ _ (Nat.lt_of_lt_of_le hlt hHeld.1.size)).trans hHeld.2⟩ (fun hHeld => ?_)
    clear hK K
    try simp only [Act.put, List.getElem_toArray, List.getElem_cons_zero, List.getElem_cons_succ, List.setIfInBounds_toArray, List.set_cons_zero, List.set_cons_succ]
    refine wpAnyH_ready (rs := [15]) (by kernel_rfl) (by simp) ?_
    refine AllReadyH.cons rfl (fun K hK => ?_) AllReadyH.nil
    go_simp
    refine (HM.out _ _ hHeld.1 (by simp) (by simp) (by simp)).mono ?_; rintro e w3 ⟨rfl, hb3⟩
    refine hK.out _ _ ⟨hHeld.1.trans (hb3.mono hHeld.1.size), (hb3.cell (p := ⟨mb + 5, 0, none⟩) (Nat.lt_of_lt_of_le hlt hHeld.1.size)).trans hHeld.2⟩ (fun hHeld => ?_)
    clear hK K
    try simp only [Act.put, List.getElem_toArray, List.getElem_cons_zero, List.getElem_cons_succ, List.setIfInBounds_toArray, List.set_cons_zero, List.set_cons_succ]
    refine wpAnyH_take (i := 16) (v := ?_) rfl (by kernel_rfl) (by kernel_rfl) (by kernel_rfl) (fun _ _ _ h => h) (Or.inl ⟨by rfl, ?_⟩) hHeld ?_
    rotate_left
    · intro w0 hSw; (try dsimp only at hSw); go_simp <;> with_reducible rfl
    try simp only [Act.put, List.getElem_toArray, List.getElem_cons_zero, List.getElem_cons_succ, List.setIfInBounds_toArray, List.set_cons_zero, List.set_cons_succ]
    refine wpAnyH_done (by kernel_rfl) ?_ _
    go_wp2
    go_ret
    exact ⟨rfl, hHeld.1⟩
end
end Go.Proofs.Qxb6605676a.En
