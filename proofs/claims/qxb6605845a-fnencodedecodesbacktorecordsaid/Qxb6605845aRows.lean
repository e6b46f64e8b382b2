/-
  No cell of these rows narrows 'for every input' (looked for: loops, veiled, ifaces, maps, wideKeys, modest, calm, conditions, laid).
  DERIVED. THE GIVEN ROWS OF THIS SEAT. 4 by the template 'for every input the law returns true; each argument reads behind the call as it read before'; 0 by the template 'total and deterministic' (their statements: Qxb6605845aTotals.lean).
  GIVEN WITH THE SEED: the statements are not yours to turn. If you find one false, say at which input.
  Laid BY PROGRAM, IN A SANDBOX (cutbox-rows.mjs): the forced cells as the released guide's own fill.sh prints them over the translation ddce0f0a230256d7… (all of the seat's roots in one cut). By AI agents, Wed Nov 11 2026. No macro, syntax, notation, axiom, sorry.
-/
import Derived.Test.Qxb6605845aChecked
import GoSem.Claim
import GoSem.ClaimJoined
import GoSem.ClaimMapViews
import Derived.JoinedTies
import Derived.KernelRfl
namespace Go.Proofs.Qxb6605845a
/- THE CELL 'sum', in the pinned program and in every row, IS THE sha256 OF THE DUMP (.gsa) THAT Qxb6605845aProg.lean LOADS. Nothing in Lean hashes anything: it is a label: what it is worth is what the hold of that sum in a sandbox is worth. -/
noncomputable def Try.pinned : Pinned := { name := "qxb6605845a", sum := "ddce0f0a230256d7a85ebc1d059ca7d05f12196e4c77d225b87a13de4bfb865e", checked := Try.checked }
namespace Rows
def none {H : Type} : Left H := { results := [], args := [] }

/-- 'zzlaws_internal_txn_b1.FnWriteListSortsByTableThenKey': WHATEVER THE INPUT: true; the input reads as it did. -/
def fnWriteListSortsByTableThenKeySpec : ChangeSpec := { name := "fnWriteListSortsByTableThenKey", fn := fun _ => fun
  | [d1, d2, d3] => { results := [.lit (.bool true)], args := [d1, d2, d3] }
  | _ => none }
def fnWriteListSortsByTableThenKeyRow : OpenClaim := { program := "qxb6605845a", sum := "ddce0f0a230256d7a85ebc1d059ca7d05f12196e4c77d225b87a13de4bfb865e", func := "example.com/farstand/farstand/zzlaws_internal_txn_b1.FnWriteListSortsByTableThenKey", spec := "fnWriteListSortsByTableThenKey", inPlace := ["internal/bytealg.abigen_runtime_cmpstring"], unfollowed := true, recurses := true, plainKeys := false, apart := false }
def FnWriteListSortsByTableThenKeySaid : Prop := fnWriteListSortsByTableThenKeyRow.holds Try.pinned (OpenSpec.ofChange fnWriteListSortsByTableThenKeySpec)

/-- ITS FALSE NEIGHBOUR: 'it returns false'. Refute it at one input. -/
def fnWriteListSortsByTableThenKeyWrong : ChangeSpec := { name := "fnWriteListSortsByTableThenKey", fn := fun _ => fun
  | [d1, d2, d3] => { results := [.lit (.bool false)], args := [d1, d2, d3] }
  | _ => none }
def FnWriteListSortsByTableThenKeyWrongFalsely : Prop := fnWriteListSortsByTableThenKeyRow.holds Try.pinned (OpenSpec.ofChange fnWriteListSortsByTableThenKeyWrong)

/-- 'zzlaws_internal_txn_b1.FnWriteListIgnoresInputOrder': WHATEVER THE INPUT: true; the input reads as it did. -/
def fnWriteListIgnoresInputOrderSpec : ChangeSpec := { name := "fnWriteListIgnoresInputOrder", fn := fun _ => fun
  | [d1, d2, d3] => { results := [.lit (.bool true)], args := [d1, d2, d3] }
  | _ => none }
def fnWriteListIgnoresInputOrderRow : OpenClaim := { program := "qxb6605845a", sum := "ddce0f0a230256d7a85ebc1d059ca7d05f12196e4c77d225b87a13de4bfb865e", func := "example.com/farstand/farstand/zzlaws_internal_txn_b1.FnWriteListIgnoresInputOrder", spec := "fnWriteListIgnoresInputOrder", inPlace := ["internal/bytealg.abigen_runtime_cmpstring"], unfollowed := true, recurses := true, plainKeys := false, apart := false }
def FnWriteListIgnoresInputOrderSaid : Prop := fnWriteListIgnoresInputOrderRow.holds Try.pinned (OpenSpec.ofChange fnWriteListIgnoresInputOrderSpec)

/-- ITS FALSE NEIGHBOUR: 'it returns false'. Refute it at one input. -/
def fnWriteListIgnoresInputOrderWrong : ChangeSpec := { name := "fnWriteListIgnoresInputOrder", fn := fun _ => fun
  | [d1, d2, d3] => { results := [.lit (.bool false)], args := [d1, d2, d3] }
  | _ => none }
def FnWriteListIgnoresInputOrderWrongFalsely : Prop := fnWriteListIgnoresInputOrderRow.holds Try.pinned (OpenSpec.ofChange fnWriteListIgnoresInputOrderWrong)

/-- 'zzlaws_internal_txn_b1.FnEncodeDecodesBackToRecord': WHATEVER THE INPUT: true; the input reads as it did. -/
def fnEncodeDecodesBackToRecordSpec : ChangeSpec := { name := "fnEncodeDecodesBackToRecord", fn := fun _ => fun
  | [d1, d2, d3, d4, d5, d6, d7, d8, d9, d10, d11, d12] => { results := [.lit (.bool true)], args := [d1, d2, d3, d4, d5, d6, d7, d8, d9, d10, d11, d12] }
  | _ => none }
def fnEncodeDecodesBackToRecordRow : OpenClaim := { program := "qxb6605845a", sum := "ddce0f0a230256d7a85ebc1d059ca7d05f12196e4c77d225b87a13de4bfb865e", func := "example.com/farstand/farstand/zzlaws_internal_txn_b1.FnEncodeDecodesBackToRecord", spec := "fnEncodeDecodesBackToRecord", plainKeys := false, apart := false }
def FnEncodeDecodesBackToRecordSaid : Prop := fnEncodeDecodesBackToRecordRow.holds Try.pinned (OpenSpec.ofChange fnEncodeDecodesBackToRecordSpec)

/-- ITS FALSE NEIGHBOUR: 'it returns false'. Refute it at one input. -/
def fnEncodeDecodesBackToRecordWrong : ChangeSpec := { name := "fnEncodeDecodesBackToRecord", fn := fun _ => fun
  | [d1, d2, d3, d4, d5, d6, d7, d8, d9, d10, d11, d12] => { results := [.lit (.bool false)], args := [d1, d2, d3, d4, d5, d6, d7, d8, d9, d10, d11, d12] }
  | _ => none }
def FnEncodeDecodesBackToRecordWrongFalsely : Prop := fnEncodeDecodesBackToRecordRow.holds Try.pinned (OpenSpec.ofChange fnEncodeDecodesBackToRecordWrong)

/-- 'zzlaws_internal_txn_b1.FnEncodeEndsListsEveryID': WHATEVER THE INPUT: true; the input reads as it did. -/
def fnEncodeEndsListsEveryIDSpec : ChangeSpec := { name := "fnEncodeEndsListsEveryID", fn := fun _ => fun
  | [d1, d2, d3] => { results := [.lit (.bool true)], args := [d1, d2, d3] }
  | _ => none }
def fnEncodeEndsListsEveryIDRow : OpenClaim := { program := "qxb6605845a", sum := "ddce0f0a230256d7a85ebc1d059ca7d05f12196e4c77d225b87a13de4bfb865e", func := "example.com/farstand/farstand/zzlaws_internal_txn_b1.FnEncodeEndsListsEveryID", spec := "fnEncodeEndsListsEveryID", plainKeys := false, apart := false }
def FnEncodeEndsListsEveryIDSaid : Prop := fnEncodeEndsListsEveryIDRow.holds Try.pinned (OpenSpec.ofChange fnEncodeEndsListsEveryIDSpec)

/-- ITS FALSE NEIGHBOUR: 'it returns false'. Refute it at one input. -/
def fnEncodeEndsListsEveryIDWrong : ChangeSpec := { name := "fnEncodeEndsListsEveryID", fn := fun _ => fun
  | [d1, d2, d3] => { results := [.lit (.bool false)], args := [d1, d2, d3] }
  | _ => none }
def FnEncodeEndsListsEveryIDWrongFalsely : Prop := fnEncodeEndsListsEveryIDRow.holds Try.pinned (OpenSpec.ofChange fnEncodeEndsListsEveryIDWrong)

end Rows
end Go.Proofs.Qxb6605845a
