/-
  No cell of these rows narrows 'for every input' (looked for: loops, veiled, ifaces, maps, wideKeys, modest, calm, conditions, laid).
  DERIVED. THE GIVEN ROWS OF THIS SEAT. 2 by the template 'for every input the law returns true; each argument reads behind the call as it read before'; 0 by the template 'total and deterministic' (their statements: Qxb6630360aTotals.lean).
  GIVEN WITH THE SEED: the statements are not yours to turn. If you find one false, say at which input.
  Laid BY PROGRAM, IN A SANDBOX (cutbox-rows.mjs): the forced cells as the released guide's own fill.sh prints them over the translation d8a20f6c67a78d50… (all of the seat's roots in one cut). By AI agents, Wed Nov 11 2026. No macro, syntax, notation, axiom, sorry.
-/
import Derived.Test.Qxb6630360aChecked
import GoSem.Claim
import GoSem.ClaimJoined
import GoSem.ClaimMapViews
import Derived.JoinedTies
import Derived.KernelRfl
namespace Go.Proofs.Qxb6630360a
/- THE CELL 'sum', in the pinned program and in every row, IS THE sha256 OF THE DUMP (.gsa) THAT Qxb6630360aProg.lean LOADS. Nothing in Lean hashes anything: it is a label: what it is worth is what the hold of that sum in a sandbox is worth. -/
noncomputable def Try.pinned : Pinned := { name := "qxb6630360a", sum := "d8a20f6c67a78d5085b40ac8ff1af4b7844bb008d032b7fed16774f657d0fca4", checked := Try.checked }
namespace Rows
def none {H : Type} : Left H := { results := [], args := [] }

/-- 'zzlaws_internal_bloom_b1.FnHasExactlyWhenAddingKeyChangesNothing': WHATEVER THE INPUT: true; the input reads as it did. -/
def fnHasExactlyWhenAddingKeyChangesNothingSpec : ChangeSpec := { name := "fnHasExactlyWhenAddingKeyChangesNothing", fn := fun _ => fun
  | [d1, d2] => { results := [.lit (.bool true)], args := [d1, d2] }
  | _ => none }
def fnHasExactlyWhenAddingKeyChangesNothingRow : OpenClaim := { program := "qxb6630360a", sum := "d8a20f6c67a78d5085b40ac8ff1af4b7844bb008d032b7fed16774f657d0fca4", func := "example.com/sheaf/sheaf/zzlaws_internal_bloom_b1.FnHasExactlyWhenAddingKeyChangesNothing", spec := "fnHasExactlyWhenAddingKeyChangesNothing", named := ["encoding/binary.LittleEndian"], apart := false }
def FnHasExactlyWhenAddingKeyChangesNothingSaid : Prop := fnHasExactlyWhenAddingKeyChangesNothingRow.holds Try.pinned (OpenSpec.ofChange fnHasExactlyWhenAddingKeyChangesNothingSpec)

/-- ITS FALSE NEIGHBOUR: 'it returns false'. Refute it at one input. -/
def fnHasExactlyWhenAddingKeyChangesNothingWrong : ChangeSpec := { name := "fnHasExactlyWhenAddingKeyChangesNothing", fn := fun _ => fun
  | [d1, d2] => { results := [.lit (.bool false)], args := [d1, d2] }
  | _ => none }
def FnHasExactlyWhenAddingKeyChangesNothingWrongFalsely : Prop := fnHasExactlyWhenAddingKeyChangesNothingRow.holds Try.pinned (OpenSpec.ofChange fnHasExactlyWhenAddingKeyChangesNothingWrong)

/-- 'zzlaws_internal_bloom_b1.FnHasSameOnRepeatedFilter': WHATEVER THE INPUT: true; the input reads as it did. -/
def fnHasSameOnRepeatedFilterSpec : ChangeSpec := { name := "fnHasSameOnRepeatedFilter", fn := fun _ => fun
  | [d1, d2, d3] => { results := [.lit (.bool true)], args := [d1, d2, d3] }
  | _ => none }
def fnHasSameOnRepeatedFilterRow : OpenClaim := { program := "qxb6630360a", sum := "d8a20f6c67a78d5085b40ac8ff1af4b7844bb008d032b7fed16774f657d0fca4", func := "example.com/sheaf/sheaf/zzlaws_internal_bloom_b1.FnHasSameOnRepeatedFilter", spec := "fnHasSameOnRepeatedFilter", named := ["encoding/binary.LittleEndian"], apart := false }
def FnHasSameOnRepeatedFilterSaid : Prop := fnHasSameOnRepeatedFilterRow.holds Try.pinned (OpenSpec.ofChange fnHasSameOnRepeatedFilterSpec)

/-- ITS FALSE NEIGHBOUR: 'it returns false'. Refute it at one input. -/
def fnHasSameOnRepeatedFilterWrong : ChangeSpec := { name := "fnHasSameOnRepeatedFilter", fn := fun _ => fun
  | [d1, d2, d3] => { results := [.lit (.bool false)], args := [d1, d2, d3] }
  | _ => none }
def FnHasSameOnRepeatedFilterWrongFalsely : Prop := fnHasSameOnRepeatedFilterRow.holds Try.pinned (OpenSpec.ofChange fnHasSameOnRepeatedFilterWrong)

end Rows
end Go.Proofs.Qxb6630360a
