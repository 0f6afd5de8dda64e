/-
  No cell of these rows narrows 'for every input' (looked for: loops, veiled, ifaces, maps, wideKeys, modest, calm, conditions, laid).
  DERIVED. THE GIVEN ROWS OF THIS SEAT. 2 by the template 'for every input the law returns true; each argument reads behind the call as it read before'; 0 by the template 'total and deterministic' (their statements: Qxb6630326aTotals.lean).
  GIVEN WITH THE SEED: the statements are not yours to turn. If you find one false, say at which input.
  Laid BY PROGRAM, IN A SANDBOX (cutbox-rows.mjs): the forced cells as the released guide's own fill.sh prints them over the translation d22ca09e8cb29144… (all of the seat's roots in one cut). By AI agents, Wed Nov 11 2026. No macro, syntax, notation, axiom, sorry.
-/
import Derived.Test.Qxb6630326aChecked
import GoSem.Claim
import GoSem.ClaimJoined
import GoSem.ClaimMapViews
import Derived.JoinedTies
import Derived.KernelRfl
namespace Go.Proofs.Qxb6630326a
/- THE CELL 'sum', in the pinned program and in every row, IS THE sha256 OF THE DUMP (.gsa) THAT Qxb6630326aProg.lean LOADS. Nothing in Lean hashes anything: it is a label: what it is worth is what the hold of that sum in a sandbox is worth. -/
noncomputable def Try.pinned : Pinned := { name := "qxb6630326a", sum := "d22ca09e8cb2914431577334aa4d1582244a7f262c715141f97a3273fdc93cde", checked := Try.checked }
namespace Rows
def none {H : Type} : Left H := { results := [], args := [] }

/-- 'zzlaws_internal_rules_b1.FnStringJoinsParamLists': WHATEVER THE INPUT: true; the input reads as it did. -/
def fnStringJoinsParamListsSpec : ChangeSpec := { name := "fnStringJoinsParamLists", fn := fun _ => fun
  | [d1, d2, d3, d4] => { results := [.lit (.bool true)], args := [d1, d2, d3, d4] }
  | _ => none }
def fnStringJoinsParamListsRow : OpenClaim := { program := "qxb6630326a", sum := "d22ca09e8cb2914431577334aa4d1582244a7f262c715141f97a3273fdc93cde", func := "example.com/boxwood/boxwood/zzlaws_internal_rules_b1.FnStringJoinsParamLists", spec := "fnStringJoinsParamLists", inPlace := ["internal/abi.NoEscape"], apart := false }
def FnStringJoinsParamListsSaid : Prop := fnStringJoinsParamListsRow.holds Try.pinned (OpenSpec.ofChange fnStringJoinsParamListsSpec)

/-- ITS FALSE NEIGHBOUR: 'it returns false'. Refute it at one input. -/
def fnStringJoinsParamListsWrong : ChangeSpec := { name := "fnStringJoinsParamLists", fn := fun _ => fun
  | [d1, d2, d3, d4] => { results := [.lit (.bool false)], args := [d1, d2, d3, d4] }
  | _ => none }
def FnStringJoinsParamListsWrongFalsely : Prop := fnStringJoinsParamListsRow.holds Try.pinned (OpenSpec.ofChange fnStringJoinsParamListsWrong)

/-- 'zzlaws_internal_rules_b1.FnStringDenyAndActionPrefix': WHATEVER THE INPUT: true; the input reads as it did. -/
def fnStringDenyAndActionPrefixSpec : ChangeSpec := { name := "fnStringDenyAndActionPrefix", fn := fun _ => fun
  | [d1, d2, d3] => { results := [.lit (.bool true)], args := [d1, d2, d3] }
  | _ => none }
def fnStringDenyAndActionPrefixRow : OpenClaim := { program := "qxb6630326a", sum := "d22ca09e8cb2914431577334aa4d1582244a7f262c715141f97a3273fdc93cde", func := "example.com/boxwood/boxwood/zzlaws_internal_rules_b1.FnStringDenyAndActionPrefix", spec := "fnStringDenyAndActionPrefix", inPlace := ["internal/abi.NoEscape"], apart := false }
def FnStringDenyAndActionPrefixSaid : Prop := fnStringDenyAndActionPrefixRow.holds Try.pinned (OpenSpec.ofChange fnStringDenyAndActionPrefixSpec)

/-- ITS FALSE NEIGHBOUR: 'it returns false'. Refute it at one input. -/
def fnStringDenyAndActionPrefixWrong : ChangeSpec := { name := "fnStringDenyAndActionPrefix", fn := fun _ => fun
  | [d1, d2, d3] => { results := [.lit (.bool false)], args := [d1, d2, d3] }
  | _ => none }
def FnStringDenyAndActionPrefixWrongFalsely : Prop := fnStringDenyAndActionPrefixRow.holds Try.pinned (OpenSpec.ofChange fnStringDenyAndActionPrefixWrong)

end Rows
end Go.Proofs.Qxb6630326a
