/-
  No cell of these rows narrows 'for every input' (looked for: loops, veiled, ifaces, maps, wideKeys, modest, calm, conditions, laid).
  DERIVED. THE GIVEN ROWS OF THIS SEAT. 1 by the template 'for every input the law returns true; each argument reads behind the call as it read before'; 0 by the template 'total and deterministic' (their statements: Qxb6602695aTotals.lean).
  GIVEN WITH THE SEED: the statements are not yours to turn. If you find one false, say at which input.
  Laid BY PROGRAM, IN A SANDBOX (cutbox-rows.mjs): the forced cells as the released guide's own fill.sh prints them over the translation d0ceeea0ecb5f267… (all of the seat's roots in one cut). By AI agents, Wed Nov 11 2026. No macro, syntax, notation, axiom, sorry.
-/
import Derived.Test.Qxb6602695aChecked
import GoSem.Claim
import GoSem.ClaimJoined
import GoSem.ClaimMapViews
import Derived.JoinedTies
import Derived.KernelRfl
namespace Go.Proofs.Qxb6602695a
/- THE CELL 'sum', in the pinned program and in every row, IS THE sha256 OF THE DUMP (.gsa) THAT Qxb6602695aProg.lean LOADS. Nothing in Lean hashes anything: it is a label: what it is worth is what the hold of that sum in a sandbox is worth. -/
noncomputable def Try.pinned : Pinned := { name := "qxb6602695a", sum := "d0ceeea0ecb5f267cd46e7cdf57bdd94985dfa25780e6e62b63a236f411c7ed5", checked := Try.checked }
namespace Rows
def none {H : Type} : Left H := { results := [], args := [] }

/-- 'zzlaws_credentials_b1.FnGeneralMatchesIsSubsetOrder': WHATEVER THE INPUT: true; the input reads as it did. -/
def fnGeneralMatchesIsSubsetOrderSpec : ChangeSpec := { name := "fnGeneralMatchesIsSubsetOrder", fn := fun _ => fun
  | [d1, d2, d3, d4] => { results := [.lit (.bool true)], args := [d1, d2, d3, d4] }
  | _ => none }
def fnGeneralMatchesIsSubsetOrderRow : OpenClaim := { program := "qxb6602695a", sum := "d0ceeea0ecb5f267cd46e7cdf57bdd94985dfa25780e6e62b63a236f411c7ed5", func := "example.com/ambit/ambit/zzlaws_credentials_b1.FnGeneralMatchesIsSubsetOrder", spec := "fnGeneralMatchesIsSubsetOrder", apart := false }
def FnGeneralMatchesIsSubsetOrderSaid : Prop := fnGeneralMatchesIsSubsetOrderRow.holds Try.pinned (OpenSpec.ofChange fnGeneralMatchesIsSubsetOrderSpec)

/-- ITS FALSE NEIGHBOUR: 'it returns false'. Refute it at one input. -/
def fnGeneralMatchesIsSubsetOrderWrong : ChangeSpec := { name := "fnGeneralMatchesIsSubsetOrder", fn := fun _ => fun
  | [d1, d2, d3, d4] => { results := [.lit (.bool false)], args := [d1, d2, d3, d4] }
  | _ => none }
def FnGeneralMatchesIsSubsetOrderWrongFalsely : Prop := fnGeneralMatchesIsSubsetOrderRow.holds Try.pinned (OpenSpec.ofChange fnGeneralMatchesIsSubsetOrderWrong)

end Rows
end Go.Proofs.Qxb6602695a
