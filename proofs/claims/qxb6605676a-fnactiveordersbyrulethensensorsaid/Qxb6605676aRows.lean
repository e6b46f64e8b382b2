/-
  No cell of these rows narrows 'for every input' (looked for: loops, veiled, ifaces, maps, wideKeys, modest, calm, conditions, laid).
  DERIVED. THE GIVEN ROWS OF THIS SEAT. 8 by the template 'for every input the law returns true; each argument reads behind the call as it read before'; 0 by the template 'total and deterministic' (their statements: Qxb6605676aTotals.lean).
  GIVEN WITH THE SEED: the statements are not yours to turn. If you find one false, say at which input.
  Laid BY PROGRAM, IN A SANDBOX (cutbox-rows.mjs): the forced cells as the released guide's own fill.sh prints them over the translation 57fc44b64f8e0dd8… (all of the seat's roots in one cut). By AI agents, Wed Nov 11 2026. No macro, syntax, notation, axiom, sorry.
-/
import Derived.Test.Qxb6605676aChecked
import GoSem.Claim
import GoSem.ClaimJoined
import GoSem.ClaimMapViews
import Derived.JoinedTies
import Derived.KernelRfl
namespace Go.Proofs.Qxb6605676a
/- THE CELL 'sum', in the pinned program and in every row, IS THE sha256 OF THE DUMP (.gsa) THAT Qxb6605676aProg.lean LOADS. Nothing in Lean hashes anything: it is a label: what it is worth is what the hold of that sum in a sandbox is worth. -/
noncomputable def Try.pinned : Pinned := { name := "qxb6605676a", sum := "57fc44b64f8e0dd8fed7f1656be01c1dd6e5ffd700bddf4a090b38fe6ce269ed", checked := Try.checked }
namespace Rows
def none {H : Type} : Left H := { results := [], args := [] }

/-- 'zzlaws_alarm_b1.FnActiveListsEachKeyAtItsSeverity': WHATEVER THE INPUT: true; the input reads as it did. -/
def fnActiveListsEachKeyAtItsSeveritySpec : ChangeSpec := { name := "fnActiveListsEachKeyAtItsSeverity", fn := fun _ => fun
  | [d1, d2, d3, d4, d5, d6] => { results := [.lit (.bool true)], args := [d1, d2, d3, d4, d5, d6] }
  | _ => none }
def fnActiveListsEachKeyAtItsSeverityRow : OpenClaim := { program := "qxb6605676a", sum := "57fc44b64f8e0dd8fed7f1656be01c1dd6e5ffd700bddf4a090b38fe6ce269ed", func := "example.com/quietbell/quietbell/zzlaws_alarm_b1.FnActiveListsEachKeyAtItsSeverity", spec := "fnActiveListsEachKeyAtItsSeverity", inPlace := ["internal/bytealg.abigen_runtime_cmpstring"], unfollowed := true, recurses := true, plainKeys := false, apart := false }
def FnActiveListsEachKeyAtItsSeveritySaid : Prop := fnActiveListsEachKeyAtItsSeverityRow.holds Try.pinned (OpenSpec.ofChange fnActiveListsEachKeyAtItsSeveritySpec)

/-- ITS FALSE NEIGHBOUR: 'it returns false'. Refute it at one input. -/
def fnActiveListsEachKeyAtItsSeverityWrong : ChangeSpec := { name := "fnActiveListsEachKeyAtItsSeverity", fn := fun _ => fun
  | [d1, d2, d3, d4, d5, d6] => { results := [.lit (.bool false)], args := [d1, d2, d3, d4, d5, d6] }
  | _ => none }
def FnActiveListsEachKeyAtItsSeverityWrongFalsely : Prop := fnActiveListsEachKeyAtItsSeverityRow.holds Try.pinned (OpenSpec.ofChange fnActiveListsEachKeyAtItsSeverityWrong)

/-- 'zzlaws_alarm_b1.FnActiveOrdersByRuleThenSensor': WHATEVER THE INPUT: true; the input reads as it did. -/
def fnActiveOrdersByRuleThenSensorSpec : ChangeSpec := { name := "fnActiveOrdersByRuleThenSensor", fn := fun _ => fun
  | [d1, d2, d3, d4, d5, d6, d7] => { results := [.lit (.bool true)], args := [d1, d2, d3, d4, d5, d6, d7] }
  | _ => none }
def fnActiveOrdersByRuleThenSensorRow : OpenClaim := { program := "qxb6605676a", sum := "57fc44b64f8e0dd8fed7f1656be01c1dd6e5ffd700bddf4a090b38fe6ce269ed", func := "example.com/quietbell/quietbell/zzlaws_alarm_b1.FnActiveOrdersByRuleThenSensor", spec := "fnActiveOrdersByRuleThenSensor", inPlace := ["internal/bytealg.abigen_runtime_cmpstring"], unfollowed := true, recurses := true, plainKeys := false, apart := false }
def FnActiveOrdersByRuleThenSensorSaid : Prop := fnActiveOrdersByRuleThenSensorRow.holds Try.pinned (OpenSpec.ofChange fnActiveOrdersByRuleThenSensorSpec)

/-- ITS FALSE NEIGHBOUR: 'it returns false'. Refute it at one input. -/
def fnActiveOrdersByRuleThenSensorWrong : ChangeSpec := { name := "fnActiveOrdersByRuleThenSensor", fn := fun _ => fun
  | [d1, d2, d3, d4, d5, d6, d7] => { results := [.lit (.bool false)], args := [d1, d2, d3, d4, d5, d6, d7] }
  | _ => none }
def FnActiveOrdersByRuleThenSensorWrongFalsely : Prop := fnActiveOrdersByRuleThenSensorRow.holds Try.pinned (OpenSpec.ofChange fnActiveOrdersByRuleThenSensorWrong)

/-- 'zzlaws_alarm_b1.FnRestoreKeepsMatchingLevelsAndEndsTheRest': WHATEVER THE INPUT: true; the input reads as it did. -/
def fnRestoreKeepsMatchingLevelsAndEndsTheRestSpec : ChangeSpec := { name := "fnRestoreKeepsMatchingLevelsAndEndsTheRest", fn := fun _ => fun
  | [d1, d2, d3, d4, d5, d6, d7, d8] => { results := [.lit (.bool true)], args := [d1, d2, d3, d4, d5, d6, d7, d8] }
  | _ => none }
def fnRestoreKeepsMatchingLevelsAndEndsTheRestRow : OpenClaim := { program := "qxb6605676a", sum := "57fc44b64f8e0dd8fed7f1656be01c1dd6e5ffd700bddf4a090b38fe6ce269ed", func := "example.com/quietbell/quietbell/zzlaws_alarm_b1.FnRestoreKeepsMatchingLevelsAndEndsTheRest", spec := "fnRestoreKeepsMatchingLevelsAndEndsTheRest", unfollowed := true, recurses := true, plainKeys := false, apart := false }
def FnRestoreKeepsMatchingLevelsAndEndsTheRestSaid : Prop := fnRestoreKeepsMatchingLevelsAndEndsTheRestRow.holds Try.pinned (OpenSpec.ofChange fnRestoreKeepsMatchingLevelsAndEndsTheRestSpec)

/-- ITS FALSE NEIGHBOUR: 'it returns false'. Refute it at one input. -/
def fnRestoreKeepsMatchingLevelsAndEndsTheRestWrong : ChangeSpec := { name := "fnRestoreKeepsMatchingLevelsAndEndsTheRest", fn := fun _ => fun
  | [d1, d2, d3, d4, d5, d6, d7, d8] => { results := [.lit (.bool false)], args := [d1, d2, d3, d4, d5, d6, d7, d8] }
  | _ => none }
def FnRestoreKeepsMatchingLevelsAndEndsTheRestWrongFalsely : Prop := fnRestoreKeepsMatchingLevelsAndEndsTheRestRow.holds Try.pinned (OpenSpec.ofChange fnRestoreKeepsMatchingLevelsAndEndsTheRestWrong)

/-- 'zzlaws_alarm_b1.FnRestoreEndsWhatActiveDoesNotShowFiring': WHATEVER THE INPUT: true; the input reads as it did. -/
def fnRestoreEndsWhatActiveDoesNotShowFiringSpec : ChangeSpec := { name := "fnRestoreEndsWhatActiveDoesNotShowFiring", fn := fun _ => fun
  | [d1, d2, d3, d4, d5, d6, d7] => { results := [.lit (.bool true)], args := [d1, d2, d3, d4, d5, d6, d7] }
  | _ => none }
def fnRestoreEndsWhatActiveDoesNotShowFiringRow : OpenClaim := { program := "qxb6605676a", sum := "57fc44b64f8e0dd8fed7f1656be01c1dd6e5ffd700bddf4a090b38fe6ce269ed", func := "example.com/quietbell/quietbell/zzlaws_alarm_b1.FnRestoreEndsWhatActiveDoesNotShowFiring", spec := "fnRestoreEndsWhatActiveDoesNotShowFiring", inPlace := ["internal/bytealg.abigen_runtime_cmpstring"], unfollowed := true, recurses := true, plainKeys := false, apart := false }
def FnRestoreEndsWhatActiveDoesNotShowFiringSaid : Prop := fnRestoreEndsWhatActiveDoesNotShowFiringRow.holds Try.pinned (OpenSpec.ofChange fnRestoreEndsWhatActiveDoesNotShowFiringSpec)

/-- ITS FALSE NEIGHBOUR: 'it returns false'. Refute it at one input. -/
def fnRestoreEndsWhatActiveDoesNotShowFiringWrong : ChangeSpec := { name := "fnRestoreEndsWhatActiveDoesNotShowFiring", fn := fun _ => fun
  | [d1, d2, d3, d4, d5, d6, d7] => { results := [.lit (.bool false)], args := [d1, d2, d3, d4, d5, d6, d7] }
  | _ => none }
def FnRestoreEndsWhatActiveDoesNotShowFiringWrongFalsely : Prop := fnRestoreEndsWhatActiveDoesNotShowFiringRow.holds Try.pinned (OpenSpec.ofChange fnRestoreEndsWhatActiveDoesNotShowFiringWrong)

/-- 'zzlaws_alarm_b1.FnRememberKeepsACopyOfHowTheKeyStood': WHATEVER THE INPUT: true; the input reads as it did. -/
def fnRememberKeepsACopyOfHowTheKeyStoodSpec : ChangeSpec := { name := "fnRememberKeepsACopyOfHowTheKeyStood", fn := fun _ => fun
  | [d1, d2, d3, d4, d5, d6] => { results := [.lit (.bool true)], args := [d1, d2, d3, d4, d5, d6] }
  | _ => none }
def fnRememberKeepsACopyOfHowTheKeyStoodRow : OpenClaim := { program := "qxb6605676a", sum := "57fc44b64f8e0dd8fed7f1656be01c1dd6e5ffd700bddf4a090b38fe6ce269ed", func := "example.com/quietbell/quietbell/zzlaws_alarm_b1.FnRememberKeepsACopyOfHowTheKeyStood", spec := "fnRememberKeepsACopyOfHowTheKeyStood", plainKeys := false, apart := false }
def FnRememberKeepsACopyOfHowTheKeyStoodSaid : Prop := fnRememberKeepsACopyOfHowTheKeyStoodRow.holds Try.pinned (OpenSpec.ofChange fnRememberKeepsACopyOfHowTheKeyStoodSpec)

/-- ITS FALSE NEIGHBOUR: 'it returns false'. Refute it at one input. -/
def fnRememberKeepsACopyOfHowTheKeyStoodWrong : ChangeSpec := { name := "fnRememberKeepsACopyOfHowTheKeyStood", fn := fun _ => fun
  | [d1, d2, d3, d4, d5, d6] => { results := [.lit (.bool false)], args := [d1, d2, d3, d4, d5, d6] }
  | _ => none }
def FnRememberKeepsACopyOfHowTheKeyStoodWrongFalsely : Prop := fnRememberKeepsACopyOfHowTheKeyStoodRow.holds Try.pinned (OpenSpec.ofChange fnRememberKeepsACopyOfHowTheKeyStoodWrong)

/-- 'zzlaws_alarm_b1.FnRememberKeepsTheFirstStanding': WHATEVER THE INPUT: true; the input reads as it did. -/
def fnRememberKeepsTheFirstStandingSpec : ChangeSpec := { name := "fnRememberKeepsTheFirstStanding", fn := fun _ => fun
  | [d1, d2, d3, d4, d5, d6, d7, d8, d9] => { results := [.lit (.bool true)], args := [d1, d2, d3, d4, d5, d6, d7, d8, d9] }
  | _ => none }
def fnRememberKeepsTheFirstStandingRow : OpenClaim := { program := "qxb6605676a", sum := "57fc44b64f8e0dd8fed7f1656be01c1dd6e5ffd700bddf4a090b38fe6ce269ed", func := "example.com/quietbell/quietbell/zzlaws_alarm_b1.FnRememberKeepsTheFirstStanding", spec := "fnRememberKeepsTheFirstStanding", plainKeys := false, apart := false }
def FnRememberKeepsTheFirstStandingSaid : Prop := fnRememberKeepsTheFirstStandingRow.holds Try.pinned (OpenSpec.ofChange fnRememberKeepsTheFirstStandingSpec)

/-- ITS FALSE NEIGHBOUR: 'it returns false'. Refute it at one input. -/
def fnRememberKeepsTheFirstStandingWrong : ChangeSpec := { name := "fnRememberKeepsTheFirstStanding", fn := fun _ => fun
  | [d1, d2, d3, d4, d5, d6, d7, d8, d9] => { results := [.lit (.bool false)], args := [d1, d2, d3, d4, d5, d6, d7, d8, d9] }
  | _ => none }
def FnRememberKeepsTheFirstStandingWrongFalsely : Prop := fnRememberKeepsTheFirstStandingRow.holds Try.pinned (OpenSpec.ofChange fnRememberKeepsTheFirstStandingWrong)

/-- 'zzlaws_alarm_b1.FnMayFireFromTheLaterOfDwellAndCooldown': WHATEVER THE INPUT: true; the input reads as it did. -/
def fnMayFireFromTheLaterOfDwellAndCooldownSpec : ChangeSpec := { name := "fnMayFireFromTheLaterOfDwellAndCooldown", fn := fun _ => fun
  | [d1, d2, d3, d4, d5, d6, d7, d8, d9] => { results := [.lit (.bool true)], args := [d1, d2, d3, d4, d5, d6, d7, d8, d9] }
  | _ => none }
def fnMayFireFromTheLaterOfDwellAndCooldownRow : OpenClaim := { program := "qxb6605676a", sum := "57fc44b64f8e0dd8fed7f1656be01c1dd6e5ffd700bddf4a090b38fe6ce269ed", func := "example.com/quietbell/quietbell/zzlaws_alarm_b1.FnMayFireFromTheLaterOfDwellAndCooldown", spec := "fnMayFireFromTheLaterOfDwellAndCooldown", plainKeys := false, apart := false }
def FnMayFireFromTheLaterOfDwellAndCooldownSaid : Prop := fnMayFireFromTheLaterOfDwellAndCooldownRow.holds Try.pinned (OpenSpec.ofChange fnMayFireFromTheLaterOfDwellAndCooldownSpec)

/-- ITS FALSE NEIGHBOUR: 'it returns false'. Refute it at one input. -/
def fnMayFireFromTheLaterOfDwellAndCooldownWrong : ChangeSpec := { name := "fnMayFireFromTheLaterOfDwellAndCooldown", fn := fun _ => fun
  | [d1, d2, d3, d4, d5, d6, d7, d8, d9] => { results := [.lit (.bool false)], args := [d1, d2, d3, d4, d5, d6, d7, d8, d9] }
  | _ => none }
def FnMayFireFromTheLaterOfDwellAndCooldownWrongFalsely : Prop := fnMayFireFromTheLaterOfDwellAndCooldownRow.holds Try.pinned (OpenSpec.ofChange fnMayFireFromTheLaterOfDwellAndCooldownWrong)

/-- 'zzlaws_alarm_b1.FnMayFireHonoursARestoredCooldown': WHATEVER THE INPUT: true; the input reads as it did. -/
def fnMayFireHonoursARestoredCooldownSpec : ChangeSpec := { name := "fnMayFireHonoursARestoredCooldown", fn := fun _ => fun
  | [d1, d2, d3, d4, d5, d6, d7, d8, d9, d10] => { results := [.lit (.bool true)], args := [d1, d2, d3, d4, d5, d6, d7, d8, d9, d10] }
  | _ => none }
def fnMayFireHonoursARestoredCooldownRow : OpenClaim := { program := "qxb6605676a", sum := "57fc44b64f8e0dd8fed7f1656be01c1dd6e5ffd700bddf4a090b38fe6ce269ed", func := "example.com/quietbell/quietbell/zzlaws_alarm_b1.FnMayFireHonoursARestoredCooldown", spec := "fnMayFireHonoursARestoredCooldown", unfollowed := true, recurses := true, plainKeys := false, apart := false }
def FnMayFireHonoursARestoredCooldownSaid : Prop := fnMayFireHonoursARestoredCooldownRow.holds Try.pinned (OpenSpec.ofChange fnMayFireHonoursARestoredCooldownSpec)

/-- ITS FALSE NEIGHBOUR: 'it returns false'. Refute it at one input. -/
def fnMayFireHonoursARestoredCooldownWrong : ChangeSpec := { name := "fnMayFireHonoursARestoredCooldown", fn := fun _ => fun
  | [d1, d2, d3, d4, d5, d6, d7, d8, d9, d10] => { results := [.lit (.bool false)], args := [d1, d2, d3, d4, d5, d6, d7, d8, d9, d10] }
  | _ => none }
def FnMayFireHonoursARestoredCooldownWrongFalsely : Prop := fnMayFireHonoursARestoredCooldownRow.holds Try.pinned (OpenSpec.ofChange fnMayFireHonoursARestoredCooldownWrong)

end Rows
end Go.Proofs.Qxb6605676a
