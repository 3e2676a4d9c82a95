/-
  No cell of these rows narrows 'for every input' (looked for: loops, veiled, ifaces, maps, wideKeys, modest, calm, conditions, laid).
  DERIVED. THE GIVEN ROWS OF THIS SEAT. 4 by the template 'for every input the law returns true; each argument reads behind the call as it read before'; 0 by the template 'total and deterministic' (their statements: Qxb6602716aTotals.lean).
  GIVEN WITH THE SEED: the statements are not yours to turn. If you find one false, say at which input.
  Laid BY PROGRAM, IN A SANDBOX (cutbox-rows.mjs): the forced cells as the released guide's own fill.sh prints them over the translation 8288e3282d4c4ece… (all of the seat's roots in one cut). By AI agents, Wed Nov 11 2026. No macro, syntax, notation, axiom, sorry.
-/
import Derived.Test.Qxb6602716aChecked
import GoSem.Claim
import GoSem.ClaimJoined
import GoSem.ClaimMapViews
import Derived.JoinedTies
import Derived.KernelRfl
namespace Go.Proofs.Qxb6602716a
/- THE CELL 'sum', in the pinned program and in every row, IS THE sha256 OF THE DUMP (.gsa) THAT Qxb6602716aProg.lean LOADS. Nothing in Lean hashes anything: it is a label: what it is worth is what the hold of that sum in a sandbox is worth. -/
noncomputable def Try.pinned : Pinned := { name := "qxb6602716a", sum := "8288e3282d4c4ece473be3cb9729abe3aa35aec33ad0a4fe183855e9ab58c072", checked := Try.checked }
namespace Rows
def none {H : Type} : Left H := { results := [], args := [] }

/-- 'zzlaws_pkg_csvfile_b1.FnNextLineScriptRebuildsText': WHATEVER THE INPUT: true; the input reads as it did. -/
def fnNextLineScriptRebuildsTextSpec : ChangeSpec := { name := "fnNextLineScriptRebuildsText", fn := fun _ => fun
  | [d] => { results := [.lit (.bool true)], args := [d] }
  | _ => none }
def fnNextLineScriptRebuildsTextRow : OpenClaim := { program := "qxb6602716a", sum := "8288e3282d4c4ece473be3cb9729abe3aa35aec33ad0a4fe183855e9ab58c072", func := "example.com/tuoguan/tuoguan/zzlaws_pkg_csvfile_b1.FnNextLineScriptRebuildsText", spec := "fnNextLineScriptRebuildsText", inPlace := ["internal/bytealg.IndexByteString"], apart := false }
def FnNextLineScriptRebuildsTextSaid : Prop := fnNextLineScriptRebuildsTextRow.holds Try.pinned (OpenSpec.ofChange fnNextLineScriptRebuildsTextSpec)

/-- ITS FALSE NEIGHBOUR: 'it returns false'. Refute it at one input. -/
def fnNextLineScriptRebuildsTextWrong : ChangeSpec := { name := "fnNextLineScriptRebuildsText", fn := fun _ => fun
  | [d] => { results := [.lit (.bool false)], args := [d] }
  | _ => none }
def FnNextLineScriptRebuildsTextWrongFalsely : Prop := fnNextLineScriptRebuildsTextRow.holds Try.pinned (OpenSpec.ofChange fnNextLineScriptRebuildsTextWrong)

/-- 'zzlaws_pkg_csvfile_b1.FnNextFilledAgreesWithNextLine': WHATEVER THE INPUT: true; the input reads as it did. -/
def fnNextFilledAgreesWithNextLineSpec : ChangeSpec := { name := "fnNextFilledAgreesWithNextLine", fn := fun _ => fun
  | [d] => { results := [.lit (.bool true)], args := [d] }
  | _ => none }
def fnNextFilledAgreesWithNextLineRow : OpenClaim := { program := "qxb6602716a", sum := "8288e3282d4c4ece473be3cb9729abe3aa35aec33ad0a4fe183855e9ab58c072", func := "example.com/tuoguan/tuoguan/zzlaws_pkg_csvfile_b1.FnNextFilledAgreesWithNextLine", spec := "fnNextFilledAgreesWithNextLine", inPlace := ["internal/bytealg.IndexByteString"], apart := false }
def FnNextFilledAgreesWithNextLineSaid : Prop := fnNextFilledAgreesWithNextLineRow.holds Try.pinned (OpenSpec.ofChange fnNextFilledAgreesWithNextLineSpec)

/-- ITS FALSE NEIGHBOUR: 'it returns false'. Refute it at one input. -/
def fnNextFilledAgreesWithNextLineWrong : ChangeSpec := { name := "fnNextFilledAgreesWithNextLine", fn := fun _ => fun
  | [d] => { results := [.lit (.bool false)], args := [d] }
  | _ => none }
def FnNextFilledAgreesWithNextLineWrongFalsely : Prop := fnNextFilledAgreesWithNextLineRow.holds Try.pinned (OpenSpec.ofChange fnNextFilledAgreesWithNextLineWrong)

/-- 'zzlaws_pkg_csvfile_b1.FnSameFieldsMatchesEncoding': WHATEVER THE INPUT: true; the input reads as it did. -/
def fnSameFieldsMatchesEncodingSpec : ChangeSpec := { name := "fnSameFieldsMatchesEncoding", fn := fun _ => fun
  | [d1, d2] => { results := [.lit (.bool true)], args := [d1, d2] }
  | _ => none }
def fnSameFieldsMatchesEncodingRow : OpenClaim := { program := "qxb6602716a", sum := "8288e3282d4c4ece473be3cb9729abe3aa35aec33ad0a4fe183855e9ab58c072", func := "example.com/tuoguan/tuoguan/zzlaws_pkg_csvfile_b1.FnSameFieldsMatchesEncoding", spec := "fnSameFieldsMatchesEncoding", apart := false }
def FnSameFieldsMatchesEncodingSaid : Prop := fnSameFieldsMatchesEncodingRow.holds Try.pinned (OpenSpec.ofChange fnSameFieldsMatchesEncodingSpec)

/-- ITS FALSE NEIGHBOUR: 'it returns false'. Refute it at one input. -/
def fnSameFieldsMatchesEncodingWrong : ChangeSpec := { name := "fnSameFieldsMatchesEncoding", fn := fun _ => fun
  | [d1, d2] => { results := [.lit (.bool false)], args := [d1, d2] }
  | _ => none }
def FnSameFieldsMatchesEncodingWrongFalsely : Prop := fnSameFieldsMatchesEncodingRow.holds Try.pinned (OpenSpec.ofChange fnSameFieldsMatchesEncodingWrong)

/-- 'zzlaws_pkg_csvfile_b1.FnSameFieldsIsEquivalence': WHATEVER THE INPUT: true; the input reads as it did. -/
def fnSameFieldsIsEquivalenceSpec : ChangeSpec := { name := "fnSameFieldsIsEquivalence", fn := fun _ => fun
  | [d1, d2, d3] => { results := [.lit (.bool true)], args := [d1, d2, d3] }
  | _ => none }
def fnSameFieldsIsEquivalenceRow : OpenClaim := { program := "qxb6602716a", sum := "8288e3282d4c4ece473be3cb9729abe3aa35aec33ad0a4fe183855e9ab58c072", func := "example.com/tuoguan/tuoguan/zzlaws_pkg_csvfile_b1.FnSameFieldsIsEquivalence", spec := "fnSameFieldsIsEquivalence", apart := false }
def FnSameFieldsIsEquivalenceSaid : Prop := fnSameFieldsIsEquivalenceRow.holds Try.pinned (OpenSpec.ofChange fnSameFieldsIsEquivalenceSpec)

/-- ITS FALSE NEIGHBOUR: 'it returns false'. Refute it at one input. -/
def fnSameFieldsIsEquivalenceWrong : ChangeSpec := { name := "fnSameFieldsIsEquivalence", fn := fun _ => fun
  | [d1, d2, d3] => { results := [.lit (.bool false)], args := [d1, d2, d3] }
  | _ => none }
def FnSameFieldsIsEquivalenceWrongFalsely : Prop := fnSameFieldsIsEquivalenceRow.holds Try.pinned (OpenSpec.ofChange fnSameFieldsIsEquivalenceWrong)

end Rows
end Go.Proofs.Qxb6602716a
