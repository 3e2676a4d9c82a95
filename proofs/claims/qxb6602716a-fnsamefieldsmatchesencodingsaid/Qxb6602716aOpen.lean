import Derived.Test.Qxb6602716aFields
import Derived.ProofKit
import Derived.ShutString
import Derived.ChangeOld
import Derived.SliceStrings
namespace Go.Proofs.Qxb6602716a
open Go.ChangeShapes Go.WideShapes Go.ChangeAt Go.RowKit

theorem own : ownKnob Try.prog.godebug = none := by kernel_rfl
theorem laidOut : laidOutB Try.prog = true := by kernel_rfl

/-- A slice of strings that was read is what the walk asks. -/
theorem strs_of {W : World} {a : Addr} {len : Nat} {ss : List ByteArray} (hl : len ≤ ss.length) (hc : ∀ i, i < ss.length → W.cell? (a.add i) = some (.string (ss.getD i ByteArray.empty))) :
    Strs W (some a) len (ss.take len) := by
  refine ⟨by simp; omega, fun h0 => ?_⟩
  obtain ⟨b, off, spot⟩ := a
  have h00 := hc 0 (by omega)
  have hspot : spot = none := by simpa [Addr.add] using World.cell?_spot h00
  subst hspot
  refine ⟨b, off, rfl, ?_, fun i hi => ?_⟩
  · have h1 : W.cell? ⟨b, off, none⟩ = some (.string (ss.getD 0 ByteArray.empty)) := by simpa [Addr.add] using h00
    by_cases hb : b < W.heap.size
    · exact hb
    · have : W.heap[b]? = none := Array.getElem?_eq_none (by omega)
      simp [World.cell?, this] at h1
  · have h1 := hc i (by omega)
    have e : (ss.take len).getD i ByteArray.empty = ss.getD i ByteArray.empty := by
      simp only [List.getD_eq_getElem?_getD, List.getElem?_take, if_pos hi]
    have ea : (⟨b, off, none⟩ : Addr).add i = ⟨b, off + i, none⟩ := by cases i <;> simp [Addr.add]
    rw [e, ← ea]
    exact h1

theorem read_strs {H : Type} {enc : TypeId × Value → H} {W : World} {ao : Option Addr} {len cap : Nat} {d : DataW H} {p : List MemPlace} (h : DataW.Trod enc Try.prog W 0 (fun _ => true) true 29 (.slice ao len cap) d p) :
    ∃ ss, Strs W ao len ss ∧ len ≤ maxLen ∧ (ao = none → len = 0 ∧ cap = 0) := by
  obtain ⟨fuel, hf⟩ := h
  rcases open_strings Try.underlying29 Try.underlying9 (by kernel_rfl) hf with ⟨hcs, _⟩ | ⟨x, l, c, ss, hcs, _, hl, hm, hz, _, hcell, hwz⟩
  · simp [Value.cells] at hcs
    obtain ⟨rfl, rfl, rfl⟩ := hcs
    exact ⟨[], ⟨rfl, by simp⟩, by simp, fun _ => ⟨rfl, rfl⟩⟩
  · simp [Value.cells] at hcs
    obtain ⟨rfl, rfl, rfl⟩ := hcs
    simp only [if_true] at hz
    exact ⟨ss.take len, strs_of (by omega) hcell, by omega, by simp⟩

end Go.Proofs.Qxb6602716a
