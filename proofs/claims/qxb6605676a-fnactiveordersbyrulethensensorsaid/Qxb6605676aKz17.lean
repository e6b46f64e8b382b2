import Derived.Test.Qxb6605676aKz15
import Derived.Test.Qxb6605676aKz4
namespace Go.Proofs.Qxb6605676a.Kz
set_option linter.unusedVariables false
set_option linter.unusedSimpArgs false
open Go.RowKit Go.Proofs.Qxb6605676a.Mp Go.Proofs.Qxb6605676a.Tm Go.Proofs.Qxb6605676a.En

set_option maxHeartbeats 400000 in
theorem zzlastAlarm_none (ra ka : Option Addr) (rn rc kc : Nat) (i l : Int) (s : ByteArray) (w : World) :
    Calls Try.prog 70 #[.slice ra rn rc, .slice ka 0 kc, .int .i64 i, .int .i64 l, .string s] w fun e w' => e = .returned (.int .i64 (-1)) ∧ Below w.heap.size w w' := by
  go_enter Try.func70, Try.ntmps70
  go_wp2
  refine wp_loop_rounds 1 ?_
  rw [rounds_succ]
  go_wp2
  go_ret
  exact ⟨rfl, Below.refl _ _⟩

set_option maxHeartbeats 400000 in
theorem zzlastCool_none (ra ka : Option Addr) (rn rc kc : Nat) (i l : Int) (s : ByteArray) (w : World) :
    Calls Try.prog 73 #[.slice ra rn rc, .slice ka 0 kc, .int .i64 i, .int .i64 l, .string s] w fun e w' => e = .returned (.int .i64 (-1)) ∧ Below w.heap.size w w' := by
  go_enter Try.func73, Try.ntmps73
  go_wp2
  refine wp_loop_rounds 1 ?_
  rw [rounds_succ]
  go_wp2
  go_ret
  exact ⟨rfl, Below.refl _ _⟩

/-- A slice of keys from cell 0 of a block, or empty. -/
def KArg (w : World) (ka : Option Addr) (K : List ZK) : Prop := K = [] ∨ ∃ kb, ka = some ⟨kb, 0, none⟩ ∧ KeysAt w kb 0 K
theorem KArg.below {w w' : World} {ka : Option Addr} {K : List ZK} (h : KArg w ka K) (hb : Below w.heap.size w w') : KArg w' ka K :=
  h.imp id fun ⟨kb, h1, h2⟩ => ⟨kb, h1, h2.below hb⟩

theorem zzlastAlarm_any (R : List RuleD) (K : List ZK) (i l : Int) (s : ByteArray) (rb : Nat) (ka : Option Addr) (kc : Nat) (w : World) (hR : RulesAt w rb R) (hlen : R.length ≤ 1000) (hsl : ∀ r ∈ R, r.sevs.length ≤ 1000) (hK : KArg w ka K) (hl : K.length ≤ 4096) :
    Calls Try.prog 70 #[.slice (some ⟨rb, 0, none⟩) R.length R.length, .slice ka K.length kc, .int .i64 i, .int .i64 l, .string s] w fun e w' => e = .returned (.int .i64 (lastTo (alarmAt R K i l s) K.length)) ∧ Below w.heap.size w w' := by
  rcases hK with rfl | ⟨kb, rfl, h⟩
  · exact zzlastAlarm_none _ _ _ _ _ i l s w
  · exact zzlastAlarm_some R K i l s rb kb w hR hlen hsl h hl kc

theorem zzlastCool_any (R : List RuleD) (K : List ZK) (i l : Int) (s : ByteArray) (rb : Nat) (ka : Option Addr) (kc : Nat) (w : World) (hR : RulesAt w rb R) (hlen : R.length ≤ 1000) (hsl : ∀ r ∈ R, r.sevs.length ≤ 1000) (hK : KArg w ka K) (hl : K.length ≤ 4096) :
    Calls Try.prog 73 #[.slice (some ⟨rb, 0, none⟩) R.length R.length, .slice ka K.length kc, .int .i64 i, .int .i64 l, .string s] w fun e w' => e = .returned (.int .i64 (lastTo (coolAt R K i l s) K.length)) ∧ Below w.heap.size w w' := by
  rcases hK with rfl | ⟨kb, rfl, h⟩
  · exact zzlastCool_none _ _ _ _ _ i l s w
  · exact zzlastCool_some R K i l s rb kb w hR hlen hsl h hl kc
end Go.Proofs.Qxb6605676a.Kz
