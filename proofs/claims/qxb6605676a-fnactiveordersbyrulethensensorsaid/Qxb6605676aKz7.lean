import Derived.Test.Qxb6605676aKz6
import Derived.Test.Qxb6605676aRs2
import Derived.OwnWalk
import Derived.Laws.Cover3
namespace Go.Proofs.Qxb6605676a.Kz
set_option linter.unusedVariables false
set_option linter.unusedSimpArgs false
open Go.RowKit Go.Proofs.Qxb6605676a.Mp Go.Proofs.Qxb6605676a.Tm Go.Proofs.Qxb6605676a.En

theorem eql_nil {t e : TypeId} (h : Try.prog.underlying t = some (.slice e)) (a : Option Addr) (n c : Nat) (w : World) : (binOp .eql t (.slice a n c) (.slice none 0 0)).run Try.prog w = .ok (.bool a.isNone) w := by
  simp [binOp, run_equal_slice_nil w t e a n c h, Result.andThen]

theorem info109 : ∃ i z, Try.prog.info? 109 = some i ∧ i.zero = some z ∧ i.size = 11 ∧ i.bytes = 128 := by
  have h : (Try.prog.info? 109).any (fun i => i.zero.isSome && i.size == 11 && i.bytes == 128) = true := by kernel_rfl
  cases hj : Try.prog.info? 109 with
  | none => rw [hj] at h; cases h
  | some i =>
    rw [hj] at h
    simp at h
    obtain ⟨⟨h1, h2⟩, h3⟩ := h
    obtain ⟨z, hz⟩ := Option.isSome_iff_exists.1 h1
    exact ⟨i, z, rfl, hz, h2, h3⟩

theorem KeysAt.range {w : World} {b o : Nat} {L : List ZK} (h : KeysAt w b o L) (j : Nat) (hj : j < L.length) : w.rangeAt b (o + j * 11) (zkCells L[j]) := by
  intro c v hv
  exact h j L[j] (by simp [hj]) c v hv

theorem there_of_block {W : World} {b : Nat} {cur : Array Value} {e : TypeId} (h : W.heap[b]? = some (.cells cur e (0, 0))) : W.there b 0 cur.size := by
  intro j hj
  simp [World.cell?, World.frozen?, h, hj]

theorem there_mono {W : World} {b o n o' n' : Nat} (h : W.there b o n) (h1 : o ≤ o') (h2 : o' + n' ≤ o + n) : W.there b o' n' := by
  intro j hj
  have := h (o' - o + j) (by omega)
  rwa [show o + (o' - o + j) = o' + j by omega] at this

theorem below_setCells {B : Nat} {a : World} {b : Nat} (hp : B ≤ b) : ∀ (vs : List Value) (o : Nat) (w : World), Below B a w → Below B a (w.setCells b o vs) := by
  intro vs
  induction vs with
  | nil => intro o w h; exact h
  | cons v vs ih => intro o w h; exact ih (o + 1) _ (h.setCell hp v)
theorem size_setCells {b : Nat} : ∀ (vs : List Value) (o : Nat) (w : World), (w.setCells b o vs).heap.size = w.heap.size := by
  intro vs
  induction vs with
  | nil => intro o w; rfl
  | cons v vs ih => intro o w; exact (ih (o + 1) _).trans (by simp)
theorem zkLen (k : ZK) : (zkCells k).length = 11 := rfl

theorem KeysAt.snoc {W : World} {b k : Nat} {L : List ZK} (h : KeysAt W b 0 (L.take k)) (hk : k < L.length) (ht : W.there b (k * 11) (zkCells L[k]).toArray.size) : KeysAt (W.setCells b (k * 11) (zkCells L[k]).toArray.toList) b 0 (L.take (k + 1)) := by
  intro j q hq c v hv
  have hj : j < (L.take (k + 1)).length := (List.getElem?_eq_some_iff.1 hq).1
  have hj2 : j < k + 1 := by simp at hj; omega
  have hc : c < 11 := by have := (List.getElem?_eq_some_iff.1 hv).1; rw [zkLen] at this; exact this
  rw [List.getElem?_take_of_lt hj2] at hq
  by_cases e : j = k
  · subst e
    rw [List.getElem?_eq_getElem hk] at hq
    obtain rfl := Option.some.inj hq
    have hr := World.rangeAt_setCells_same W b (j * 11) (zkCells L[j]).toArray.toList (by simpa using ht)
    have := hr c v (by simpa using hv)
    simpa using this
  · rw [World.cell?_setCells_out b _ _ W _ (fun _ _ => .inl (by simp; omega))]
    exact h j q (by rw [List.getElem?_take_of_lt (by omega)]; exact hq) c v hv

theorem zkOne (k : ZK) : (zkCells k).toArray.all (·.oneCell') = true := by simp [zkCells, Value.oneCell']

set_option maxHeartbeats 400000 in
set_option maxRecDepth 10000 in
theorem zzcopyKeys_some (L : List ZK) (kb o cap : Nat) (w : World) (hL : KeysAt w kb o L) (hl : L.length ≤ 4096) :
    Calls Try.prog 13 #[.slice (some ⟨kb, o, none⟩) L.length cap] w fun e w' => e = .returned (.slice (some ⟨w.heap.size, 0, none⟩) L.length L.length) ∧ Below w.heap.size w w' ∧ KeysAt w' w.heap.size 0 L := by
  obtain ⟨i, z, hi, hz, hs, hby⟩ := info109
  have hnil := fun (W : World) => eql_nil Try.underlying22 (some ⟨kb, o, none⟩) L.length cap W
  simp only [Option.isNone_some] at hnil
  go_enter Try.func13, Try.ntmps13
  go_wp2_with (at_make; refine wpList_make_full _ rfl _ _ 22 rfl w.heap.size 109 i z 11 Try.underlying22 hi hz hs .i64 .i64 _ _ L.length rfl rfl rfl rfl (by rw [hby]; omega) (by unfold maxLen; omega) (Nat.le_refl _) ?_; intro w1 hown hgr)
  have hB1 : Below w.heap.size w w1 := ⟨hgr.os, hgr.tape, hgr.output, hgr.size, fun k hk => hgr.block k hk (by simp)⟩
  have hT1 : w1.there w.heap.size 0 (L.length * 11) := by
    rcases hown.2 with ⟨hv, _⟩ | ⟨g, cap', cur, hv, _, hg, _, _, hcs, _⟩
    · cases hv
    · simp at hv
      obtain ⟨rfl, rfl⟩ := hv
      rw [← hcs]
      exact there_of_block hg
  clear hown hgr hnil hi hz hs hby
  go_loopw [4] (fun x wr => ∃ k : Nat, k ≤ L.length ∧ x = .int .i64 k ∧ Below w.heap.size w wr ∧ wr.there w.heap.size 0 (L.length * 11) ∧ KeysAt wr w.heap.size 0 (L.take k)) (fun x _ => L.length - (intOf x).toNat)
  case atStart => exact ⟨0, Nat.zero_le _, rfl, hB1, hT1, by intro j k hk; simp at hk⟩
  case round =>
    obtain ⟨k, hk, rfl, hb, ht, hK⟩ := hrel
    by_cases hkl : k < L.length
    · have HR : Hid (wr.rangeAt kb (o + k * 11) (zkCells L[k])) := (hL.below hb).range k hkl
      have hi109 : (Try.prog.info? 109).map (·.size) = some (zkCells L[k]).toArray.size := by kernel_rfl
      have HT : Hid (wr.there w.heap.size (k * 11) (zkCells L[k]).toArray.size) := there_mono ht (by omega) (by simp [zkCells]; omega)
      have hi2 : (Try.prog.info? 109).map (·.size) = some (zkCells L[k]).length := by kernel_rfl
      go_wp2_with (first | (with_reducible show wpList _ _ _ (⟨some 21, .load 109 (.tmp 20), _, _, _, _⟩ :: _) _ _; refine wpList_load_mid ?_ 109 (.tmp 20) ?_ kb (o + k * 11) ?_ (zkCells L[k]) _ HR.out Try.underlying109 rfl hi2 ?_; exact rfl; exact rfl; simp [Act.eval]) | (with_reducible show wpList _ _ _ (⟨none, .store 109 (.tmp 22) (.tmp 21), _, _, _, _⟩ :: _) _ _; refine wpList_store_mid ?_ 109 (.tmp 22) (.tmp 21) ?_ w.heap.size (k * 11) (zkCells L[k]).toArray ?_ ?_ HT.out hi109 (zkOne _) ?_; exact rfl; exact rfl; simp [Act.eval]; simp [Act.eval]))
      exact ⟨⟨k + 1, by omega, by go_num, below_setCells (Nat.le_refl _) _ _ _ hb, World.there_setCells ht _ _ _, hK.snoc hkl HT.out⟩, by simp [intOf]; omega⟩
    · go_wp2
      go_ret
      have hd : L.take k = L := List.take_of_length_le (by omega)
      rw [hd] at hK
      exact ⟨rfl, hb, hK⟩

set_option maxHeartbeats 400000 in
theorem zzcopyKeys_none (w : World) : Calls Try.prog 13 #[.slice none 0 0] w fun e w' => e = .returned (.slice none 0 0) ∧ w = w' := by
  have hnil := fun (W : World) => eql_nil Try.underlying22 none 0 0 W
  simp only [Option.isNone_none] at hnil
  go_enter Try.func13, Try.ntmps13
  go_wp2
  go_ret
  exact ⟨rfl, rfl⟩
end Go.Proofs.Qxb6605676a.Kz
