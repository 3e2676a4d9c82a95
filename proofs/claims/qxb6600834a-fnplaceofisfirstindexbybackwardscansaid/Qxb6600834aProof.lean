import Derived.Test.Qxb6600834aLaw
import Derived.ProofKit
import Derived.ShutString
import Derived.ChangeOld
import Derived.SliceStrings
namespace Go.Proofs.Qxb6600834a
open Go.ChangeShapes Go.WideShapes Go.ChangeAt Go.RowKit
open Go.ChangeMaps (open_string shut_string)

theorem own : ownKnob Try.prog.godebug = none := by kernel_rfl
theorem laidOut : laidOutB Try.prog = true := by kernel_rfl

/-- A slice of strings that was read is what the walk asks. -/
theorem strs_of {W : World} {a : Addr} {len : Nat} {ss : List ByteArray} (hl : len ≤ ss.length) (hc : ∀ i, i < ss.length → W.cell? (a.add i) = some (.string (ss.getD i ByteArray.empty))) :
    Strs W (some a) len (ss.take len) := by
  refine ⟨by simp; omega, fun h0 => ?_⟩
  obtain ⟨b, off, spot⟩ := a
  have h00 := hc 0 (by omega)
  have hspot : spot = none := by simpa [Addr.add] using World.cell?_spot h00
  subst hspot
  refine ⟨b, off, rfl, ?_, fun i hi => ?_⟩
  · have h1 : W.cell? ⟨b, off, none⟩ = some (.string (ss.getD 0 ByteArray.empty)) := by simpa [Addr.add] using h00
    by_cases hb : b < W.heap.size
    · exact hb
    · have : W.heap[b]? = none := Array.getElem?_eq_none (by omega)
      simp [World.cell?, this] at h1
  · have h1 := hc i (by omega)
    have e : (ss.take len).getD i ByteArray.empty = ss.getD i ByteArray.empty := by
      simp only [List.getD_eq_getElem?_getD, List.getElem?_take, if_pos hi]
    have ea : (⟨b, off, none⟩ : Addr).add i = ⟨b, off + i, none⟩ := by cases i <;> simp [Addr.add]
    rw [e, ← ea]
    exact h1

theorem size_of_mem {ss : List ByteArray} {len : Nat} (h : ∀ s ∈ ss, s.size ≤ maxLen) (i : Nat) : ((ss.take len).getD i ByteArray.empty).size ≤ maxLen := by
  rw [List.getD_eq_getElem?_getD]
  cases h1 : (ss.take len)[i]? with
  | none => simp
  | some x => exact h x (List.mem_of_mem_take (List.mem_of_getElem? h1))

set_option maxRecDepth 100000 in
theorem lifted (os : Os) (started : os.Started) (H : Type) (enc : TypeId × Value → H) :
    ReturnsInHanded {} Try.checked os 3 .any (Rows.fnPlaceOfIsFirstIndexByBackwardScanSpec.pre6 enc Try.prog Try.f3 Rows.fnPlaceOfIsFirstIndexByBackwardScanRow.domain false) (Rows.fnPlaceOfIsFirstIndexByBackwardScanSpec.post enc Try.prog Try.f3 false true false false) := by
  refine returnsInHanded_of_change (C := Try.checked) own started (by kernel_rfl) Try.func3
    (ChangeSpec.witness6 (enc := enc) (C := Try.checked) false ⟨#[], #[.slice none 0 0, .string ByteArray.empty], []⟩ 8 (by kernel_rfl) (by kernel_rfl) (by kernel_rfl) (by kernel_rfl)) ?_
  intro W base args ds gs before hval0 hW hcnd _
  have hval : ∀ (j : Nat) t v, Try.f3.params[j]? = some t → args[j]? = some v → Value.okWide Try.prog W .any base t v := hval0
  have hW' := hW
  obtain ⟨p, q, hA0, hV, rfl, hfz, hnd⟩ := hW
  have hA : DataW.TrodAll enc Try.prog W 0 (fun _ => true) true Try.f3.params.toList args.toList ds p := hA0
  rw [Try.params3] at hA hval
  obtain ⟨v0, vs0, d0, ds0, p0, q0, hargs, rfl, rfl, h0, r0⟩ := trodAll_cons hA
  obtain ⟨v1, vs1, d1, ds1, p1, q1, rfl, rfl, rfl, h1, r1⟩ := trodAll_cons r0
  obtain ⟨rfl, rfl, rfl⟩ := trodAll_nil r1
  obtain rfl : args = #[v0, v1] := by cases args; simp_all
  obtain ⟨rfl, rfl⟩ := trodVars_none hV
  obtain ⟨a0, len0, cap0, rfl⟩ := okWide_slice Try.underlying22 (hval 0 22 v0 rfl rfl)
  have k0 := h0
  have lt0 : ∀ x ∈ p0, x.block < W.heap.size := by obtain ⟨m, hm⟩ := k0; exact DataW.trod_lt m _ _ _ hm
  obtain ⟨z0, w0, wl, ws, wn⟩ : ∃ ss, Strs W a0 len0 ss ∧ len0 ≤ maxLen ∧ (∀ i, (ss.getD i ByteArray.empty).size ≤ maxLen) ∧ (a0 = none → len0 = 0 ∧ cap0 = 0) := by
    obtain ⟨fuel, hf⟩ := h0
    rcases open_strings Try.underlying22 Try.underlying9 (by kernel_rfl) hf with ⟨hcs, _⟩ | ⟨x, l, c, ss, hcs, _, hl, hm, hz, _, hcell, hwz⟩
    · simp [Value.cells] at hcs
      obtain ⟨rfl, rfl, rfl⟩ := hcs
      exact ⟨[], ⟨rfl, by simp⟩, by simp, by simp, fun _ => ⟨rfl, rfl⟩⟩
    · simp [Value.cells] at hcs
      obtain ⟨rfl, rfl, rfl⟩ := hcs
      simp only [if_true] at hz
      exact ⟨ss.take len0, strs_of (by omega) hcell, by omega, size_of_mem hwz, by simp⟩
  obtain ⟨s1, rfl, rfl, rfl, hs1⟩ := open_string Try.underlying9 (hval 1 9 v1 rfl rfl) h1
  clear hA0 hval0
  refine (law_any a0 len0 cap0 z0 s1 W w0 wl hs1 ws wn).mono fun e W' ⟨he, bel⟩ => ?_
  subst he
  exact ⟨_, rfl, _, _, _, [], _, [], hW', trodAll_mk1 (shut_bool Try.underlying4 _), (trodAll_mk2 (Below.trod laidOut (by kernel_rfl) (of_decide_eq_true (by kernel_rfl)) k0 bel lt0) (shut_string Try.underlying9 hs1)), rfl, bel.frame _, fun h => by cases h⟩

/-- THE STATEMENT. -/
theorem fnPlaceOf_proved : Rows.FnPlaceOfIsFirstIndexByBackwardScanSaid :=
  OpenClaim.holds_of_wide 3 Try.f3 rfl rfl rfl rfl rfl rfl rfl ⟨rfl, rfl, rfl, rfl, rfl⟩ rfl rfl rfl rfl rfl (by kernel_rfl) Try.func3 (by kernel_rfl)
    (of_decide_eq_true (by kernel_rfl)) (by unfold Func.isWrapper; first | (rw [if_pos (by decide +kernel)]; kernel_rfl) | (rw [if_neg (by decide +kernel)]; exact ⟨rfl, rfl⟩))
    (fun os started H enc _ => lifted os started H enc)
#print axioms fnPlaceOf_proved
end Go.Proofs.Qxb6600834a
