import Derived.Test.Qxb6602821aLater
import Derived.ProofKit
import Derived.ShutString
import Derived.ChangeOld
import Derived.Deep.SlicePairs
namespace Go.Proofs.Qxb6602821a
open Go.ChangeShapes Go.WideShapes Go.ChangeAt Go.RowKit
open Go.ChangeMaps (open_string shut_string)

theorem own : ownKnob Try.prog.godebug = none := by kernel_rfl
theorem laidOut : laidOutB Try.prog = true := by kernel_rfl

/-- The string and the bool in a value that is one. -/
def strIn : Value → ByteArray | .string s => s | _ => ByteArray.empty
def boolIn : Value → Bool | .bool x => x | _ => false

/-- A slice of ZZFrom that was read is what the walk asks. -/
theorem froms_of {H : Type} {enc : TypeId × Value → H} {W : World} {ao : Option Addr} {len cap : Nat} {d : DataW H} {p : List MemPlace} (h : DataW.Trod enc Try.prog W 0 (fun _ => true) true 34 (.slice ao len cap) d p) :
    ∃ st dt, Froms W ao len st dt ∧ len ≤ maxLen := by
  obtain ⟨fuel, hf⟩ := h
  rcases Deep.open_slice_pairs Try.underlying34 Try.underlying37 (by kernel_rfl) rfl rfl (by kernel_rfl) (by kernel_rfl) hf with ⟨hcs, _⟩ | ⟨x, l, c, m, n, V0, V1, D0, D1, P0, P1, hcs, _, hl, hm, hmm, _, hcell⟩
  · simp [Value.cells] at hcs
    obtain ⟨rfl, rfl, rfl⟩ := hcs
    exact ⟨fun _ => false, fun _ => ByteArray.empty, fun h0 => by omega, by simp⟩
  · simp [Value.cells] at hcs
    obtain ⟨rfl, rfl, rfl⟩ := hcs
    simp only [if_true] at hmm
    subst hmm
    have each : ∀ i, i < m → ∃ (s : Bool) (t : ByteArray), V0 i = .bool s ∧ V1 i = .string t := fun i hi => by
      obtain ⟨_, _, g0, g1⟩ := hcell i hi
      obtain ⟨s, hs, _⟩ := DataW.trod_bool Try.underlying4 g0
      obtain ⟨t, ht, _, htz⟩ := DataW.trod_string Try.underlying9 g1
      exact ⟨s, t, by simpa using hs, by simpa using ht⟩
    refine ⟨fun i => boolIn (V0 i), fun i => strIn (V1 i), fun h0 => ?_, by omega⟩
    obtain ⟨b, off, spot⟩ := x
    obtain ⟨c0, _⟩ := hcell 0 (by omega)
    have hspot : spot = none := by simpa [Addr.add] using World.cell?_spot c0
    subst hspot
    refine ⟨b, off, rfl, ?_, fun i hi => ?_⟩
    · by_cases hb : b < W.heap.size
      · exact hb
      · have : W.heap[b]? = none := Array.getElem?_eq_none (by omega)
        simp [World.cell?, this, Addr.add] at c0
    · obtain ⟨s, t, e1, e3⟩ := each i (by omega)
      obtain ⟨g1, g2, _⟩ := hcell i (by omega)
      have ea : ∀ j, (⟨b, off, none⟩ : Addr).add j = ⟨b, off + j, none⟩ := fun j => by cases j <;> simp [Addr.add]
      rw [ea] at g1 g2
      simp only [e1, e3, strIn, boolIn]
      exact ⟨by rw [g1, e1], by rw [Nat.add_assoc, g2, e3]⟩

set_option maxRecDepth 100000 in
theorem later_lifted (os : Os) (started : os.Started) (H : Type) (enc : TypeId × Value → H) :
    ReturnsInHanded {} Try.checked os 4 .any (Rows.fnVersionInForceLaterDateNoEarlierVersionSpec.pre6 enc Try.prog Try.f4 Rows.fnVersionInForceLaterDateNoEarlierVersionRow.domain false) (Rows.fnVersionInForceLaterDateNoEarlierVersionSpec.post enc Try.prog Try.f4 false true false false) := by
  refine returnsInHanded_of_change (C := Try.checked) own started (by kernel_rfl) Try.func4
    (ChangeSpec.witness6 (enc := enc) (C := Try.checked) false ⟨#[], #[.slice none 0 0, .string ByteArray.empty, .string ByteArray.empty], []⟩ 8 (by kernel_rfl) (by kernel_rfl) (by kernel_rfl) (by kernel_rfl)) ?_
  intro W base args ds gs before hval0 hW hcnd _
  have hval : ∀ (j : Nat) t v, Try.f4.params[j]? = some t → args[j]? = some v → Value.okWide Try.prog W .any base t v := hval0
  have hW' := hW
  obtain ⟨p, q, hA0, hV, rfl, hfz, hnd⟩ := hW
  have hA : DataW.TrodAll enc Try.prog W 0 (fun _ => true) true Try.f4.params.toList args.toList ds p := hA0
  rw [Try.params4] at hA hval
  obtain ⟨v0, vs0, d0, ds0, p0, q0, hargs, rfl, rfl, h0, r0⟩ := trodAll_cons hA
  obtain ⟨v1, vs1, d1, ds1, p1, q1, rfl, rfl, rfl, h1, r1⟩ := trodAll_cons r0
  obtain ⟨v2, vs2, d2, ds2, p2, q2, rfl, rfl, rfl, h2, r2⟩ := trodAll_cons r1
  obtain ⟨rfl, rfl, rfl⟩ := trodAll_nil r2
  obtain rfl : args = #[v0, v1, v2] := by cases args; simp_all
  obtain ⟨rfl, rfl⟩ := trodVars_none hV
  obtain ⟨a0, l0, c0, rfl⟩ := okWide_slice Try.underlying34 (hval 0 34 v0 rfl rfl)
  have lt0 : ∀ x ∈ p0, x.block < W.heap.size := by obtain ⟨m, hm⟩ := h0; exact DataW.trod_lt m _ _ _ hm
  obtain ⟨st, dt, w0, m0⟩ := froms_of h0
  obtain ⟨s1, rfl, rfl, rfl, hs1⟩ := open_string Try.underlying9 (hval 1 9 v1 rfl rfl) h1
  obtain ⟨s2, rfl, rfl, rfl, hs2⟩ := open_string Try.underlying9 (hval 2 9 v2 rfl rfl) h2
  clear hA0 hval0
  refine (later_any a0 l0 c0 st dt s1 s2 W w0 m0 hs1 hs2).mono fun e W' ⟨he, bel⟩ => ?_
  subst he
  exact ⟨_, rfl, _, _, _, [], _, [], hW', trodAll_mk1 (shut_bool Try.underlying4 _), (trodAll_mk3 (Below.trod laidOut (by kernel_rfl) (of_decide_eq_true (by kernel_rfl)) h0 bel lt0) (shut_string Try.underlying9 hs1) (shut_string Try.underlying9 hs2)), rfl, bel.frame _, fun h => by cases h⟩

/-- THE STATEMENT. -/
theorem fnLater_proved : Rows.FnVersionInForceLaterDateNoEarlierVersionSaid :=
  OpenClaim.holds_of_wide 4 Try.f4 rfl rfl rfl rfl rfl rfl rfl ⟨rfl, rfl, rfl, rfl, rfl⟩ rfl rfl rfl rfl rfl (by kernel_rfl) Try.func4 (by kernel_rfl)
    (of_decide_eq_true (by kernel_rfl)) (by unfold Func.isWrapper; first | (rw [if_pos (by decide +kernel)]; kernel_rfl) | (rw [if_neg (by decide +kernel)]; exact ⟨rfl, rfl⟩))
    (fun os started H enc _ => later_lifted os started H enc)
#print axioms fnLater_proved
end Go.Proofs.Qxb6602821a
