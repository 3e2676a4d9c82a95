/-
  No cell of these rows narrows 'for every input' (looked for: loops, veiled, ifaces, maps, wideKeys, modest, calm, conditions, laid).
  DERIVED. THE GIVEN ROWS OF THIS SEAT. 2 by the template 'for every input the law returns true; each argument reads behind the call as it read before'; 0 by the template 'total and deterministic' (their statements: Qxb6602821aTotals.lean).
  GIVEN WITH THE SEED: the statements are not yours to turn. If you find one false, say at which input.
  Laid BY PROGRAM, IN A SANDBOX (cutbox-rows.mjs): the forced cells as the released guide's own fill.sh prints them over the translation e5af5414a575647b… (all of the seat's roots in one cut). By AI agents, Wed Nov 11 2026. No macro, syntax, notation, axiom, sorry.
-/
import Derived.Test.Qxb6602821aChecked
import GoSem.Claim
import GoSem.ClaimJoined
import GoSem.ClaimMapViews
import Derived.JoinedTies
import Derived.KernelRfl
namespace Go.Proofs.Qxb6602821a
/- THE CELL 'sum', in the pinned program and in every row, IS THE sha256 OF THE DUMP (.gsa) THAT Qxb6602821aProg.lean LOADS. Nothing in Lean hashes anything: it is a label: what it is worth is what the hold of that sum in a sandbox is worth. -/
noncomputable def Try.pinned : Pinned := { name := "qxb6602821a", sum := "e5af5414a575647b1c5c6d6eae12c5d041da89b89a090d3e6d5a10902c25263b", checked := Try.checked }
namespace Rows
def none {H : Type} : Left H := { results := [], args := [] }

/-- 'zzlaws_internal_ledger_b1.FnVersionInForceLatestDateOnOrBefore': WHATEVER THE INPUT: true; the input reads as it did. -/
def fnVersionInForceLatestDateOnOrBeforeSpec : ChangeSpec := { name := "fnVersionInForceLatestDateOnOrBefore", fn := fun _ => fun
  | [d1, d2] => { results := [.lit (.bool true)], args := [d1, d2] }
  | _ => none }
def fnVersionInForceLatestDateOnOrBeforeRow : OpenClaim := { program := "qxb6602821a", sum := "e5af5414a575647b1c5c6d6eae12c5d041da89b89a090d3e6d5a10902c25263b", func := "example.com/tierledger/tierledger/zzlaws_internal_ledger_b1.FnVersionInForceLatestDateOnOrBefore", spec := "fnVersionInForceLatestDateOnOrBefore", apart := false }
def FnVersionInForceLatestDateOnOrBeforeSaid : Prop := fnVersionInForceLatestDateOnOrBeforeRow.holds Try.pinned (OpenSpec.ofChange fnVersionInForceLatestDateOnOrBeforeSpec)

/-- ITS FALSE NEIGHBOUR: 'it returns false'. Refute it at one input. -/
def fnVersionInForceLatestDateOnOrBeforeWrong : ChangeSpec := { name := "fnVersionInForceLatestDateOnOrBefore", fn := fun _ => fun
  | [d1, d2] => { results := [.lit (.bool false)], args := [d1, d2] }
  | _ => none }
def FnVersionInForceLatestDateOnOrBeforeWrongFalsely : Prop := fnVersionInForceLatestDateOnOrBeforeRow.holds Try.pinned (OpenSpec.ofChange fnVersionInForceLatestDateOnOrBeforeWrong)

/-- 'zzlaws_internal_ledger_b1.FnVersionInForceLaterDateNoEarlierVersion': WHATEVER THE INPUT: true; the input reads as it did. -/
def fnVersionInForceLaterDateNoEarlierVersionSpec : ChangeSpec := { name := "fnVersionInForceLaterDateNoEarlierVersion", fn := fun _ => fun
  | [d1, d2, d3] => { results := [.lit (.bool true)], args := [d1, d2, d3] }
  | _ => none }
def fnVersionInForceLaterDateNoEarlierVersionRow : OpenClaim := { program := "qxb6602821a", sum := "e5af5414a575647b1c5c6d6eae12c5d041da89b89a090d3e6d5a10902c25263b", func := "example.com/tierledger/tierledger/zzlaws_internal_ledger_b1.FnVersionInForceLaterDateNoEarlierVersion", spec := "fnVersionInForceLaterDateNoEarlierVersion", apart := false }
def FnVersionInForceLaterDateNoEarlierVersionSaid : Prop := fnVersionInForceLaterDateNoEarlierVersionRow.holds Try.pinned (OpenSpec.ofChange fnVersionInForceLaterDateNoEarlierVersionSpec)

/-- ITS FALSE NEIGHBOUR: 'it returns false'. Refute it at one input. -/
def fnVersionInForceLaterDateNoEarlierVersionWrong : ChangeSpec := { name := "fnVersionInForceLaterDateNoEarlierVersion", fn := fun _ => fun
  | [d1, d2, d3] => { results := [.lit (.bool false)], args := [d1, d2, d3] }
  | _ => none }
def FnVersionInForceLaterDateNoEarlierVersionWrongFalsely : Prop := fnVersionInForceLaterDateNoEarlierVersionRow.holds Try.pinned (OpenSpec.ofChange fnVersionInForceLaterDateNoEarlierVersionWrong)

end Rows
end Go.Proofs.Qxb6602821a
