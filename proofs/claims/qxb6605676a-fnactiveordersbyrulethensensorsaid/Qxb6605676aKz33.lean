import Derived.Test.Qxb6605676aKz32
import Derived.Deep.RegionHeld3
namespace Go.Proofs.Qxb6605676a.Kz
set_option linter.unusedVariables false
set_option linter.unusedSimpArgs false
noncomputable def body31b : Code := ((loopsOf (Try.f31.body.getD .skip))[1]?).getD .skip
theorem lastTo_max (p : Nat → Bool) : ∀ (n k : Nat), k < n → p k = true → (k : Int) ≤ lastTo p n
  | 0, k, h, _ => by omega
  | n + 1, k, h, hp => by
    unfold lastTo
    by_cases hn : p n = true
    · rw [if_pos hn]; omega
    · rw [if_neg hn]
      have : k ≠ n := fun e => hn (e ▸ hp)
      exact lastTo_max p n k (by omega) hp
end Go.Proofs.Qxb6605676a.Kz
