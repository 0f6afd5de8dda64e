/-
  No cell of these rows narrows 'for every input' (looked for: loops, veiled, ifaces, maps, wideKeys, modest, calm, conditions, laid).
  DERIVED. THE GIVEN ROWS OF THIS SEAT. 2 by the template 'for every input the law returns true; each argument reads behind the call as it read before'; 0 by the template 'total and deterministic' (their statements: Qxb6630227aTotals.lean).
  GIVEN WITH THE SEED: the statements are not yours to turn. If you find one false, say at which input.
  Laid BY PROGRAM, IN A SANDBOX (cutbox-rows.mjs): the forced cells as the released guide's own fill.sh prints them over the translation 8845a0a2a5e1a718… (all of the seat's roots in one cut). By AI agents, Wed Nov 11 2026. No macro, syntax, notation, axiom, sorry.
-/
import Derived.Test.Qxb6630227aChecked
import GoSem.Claim
import GoSem.ClaimJoined
import GoSem.ClaimMapViews
import Derived.JoinedTies
import Derived.KernelRfl
namespace Go.Proofs.Qxb6630227a
/- THE CELL 'sum', in the pinned program and in every row, IS THE sha256 OF THE DUMP (.gsa) THAT Qxb6630227aProg.lean LOADS. Nothing in Lean hashes anything: it is a label: what it is worth is what the hold of that sum in a sandbox is worth. -/
noncomputable def Try.pinned : Pinned := { name := "qxb6630227a", sum := "8845a0a2a5e1a718fff66a5fdaa35a500d230cce4d8d4c6c448628d278596024", checked := Try.checked }
namespace Rows
def none {H : Type} : Left H := { results := [], args := [] }

/-- 'zzlaws_internal_broker_b1.FnValidNameModel': WHATEVER THE INPUT: true; the input reads as it did. -/
def fnValidNameModelSpec : ChangeSpec := { name := "fnValidNameModel", fn := fun _ => fun
  | [d] => { results := [.lit (.bool true)], args := [d] }
  | _ => none }
def fnValidNameModelRow : OpenClaim := { program := "qxb6630227a", sum := "8845a0a2a5e1a718fff66a5fdaa35a500d230cce4d8d4c6c448628d278596024", func := "example.com/ossa/ossa/zzlaws_internal_broker_b1.FnValidNameModel", spec := "fnValidNameModel", apart := false }
def FnValidNameModelSaid : Prop := fnValidNameModelRow.holds Try.pinned (OpenSpec.ofChange fnValidNameModelSpec)

/-- ITS FALSE NEIGHBOUR: 'it returns false'. Refute it at one input. -/
def fnValidNameModelWrong : ChangeSpec := { name := "fnValidNameModel", fn := fun _ => fun
  | [d] => { results := [.lit (.bool false)], args := [d] }
  | _ => none }
def FnValidNameModelWrongFalsely : Prop := fnValidNameModelRow.holds Try.pinned (OpenSpec.ofChange fnValidNameModelWrong)

/-- 'zzlaws_internal_broker_b1.FnValidNameEphemeralTwin': WHATEVER THE INPUT: true; the input reads as it did. -/
def fnValidNameEphemeralTwinSpec : ChangeSpec := { name := "fnValidNameEphemeralTwin", fn := fun _ => fun
  | [d] => { results := [.lit (.bool true)], args := [d] }
  | _ => none }
def fnValidNameEphemeralTwinRow : OpenClaim := { program := "qxb6630227a", sum := "8845a0a2a5e1a718fff66a5fdaa35a500d230cce4d8d4c6c448628d278596024", func := "example.com/ossa/ossa/zzlaws_internal_broker_b1.FnValidNameEphemeralTwin", spec := "fnValidNameEphemeralTwin", apart := false }
def FnValidNameEphemeralTwinSaid : Prop := fnValidNameEphemeralTwinRow.holds Try.pinned (OpenSpec.ofChange fnValidNameEphemeralTwinSpec)

/-- ITS FALSE NEIGHBOUR: 'it returns false'. Refute it at one input. -/
def fnValidNameEphemeralTwinWrong : ChangeSpec := { name := "fnValidNameEphemeralTwin", fn := fun _ => fun
  | [d] => { results := [.lit (.bool false)], args := [d] }
  | _ => none }
def FnValidNameEphemeralTwinWrongFalsely : Prop := fnValidNameEphemeralTwinRow.holds Try.pinned (OpenSpec.ofChange fnValidNameEphemeralTwinWrong)

end Rows
end Go.Proofs.Qxb6630227a
