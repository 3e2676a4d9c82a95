import Derived.Test.Qxb6602695aLaw
import Derived.ProofKit
import Derived.ShutString
import Derived.ChangeOld
import Derived.Deep.SlicePairs
namespace Go.Proofs.Qxb6602695a
open Go.ChangeShapes Go.WideShapes Go.ChangeAt Go.RowKit
open Go.ChangeMaps (open_string shut_string)

theorem own : ownKnob Try.prog.godebug = none := by kernel_rfl
theorem laidOut : laidOutB Try.prog = true := by kernel_rfl

/-- The string in a value that is one. -/
def strIn : Value → ByteArray | .string s => s | _ => ByteArray.empty

/-- A slice of attributes that was read is what the walk asks. -/
theorem attrs_of {H : Type} {enc : TypeId × Value → H} {W : World} {ao : Option Addr} {len cap : Nat} {d : DataW H} {p : List MemPlace} (h : DataW.Trod enc Try.prog W 0 (fun _ => true) true 22 (.slice ao len cap) d p) :
    ∃ nm vl, Attrs W ao len nm vl ∧ len ≤ maxLen ∧ (ao = none → len = 0 ∧ cap = 0) := by
  obtain ⟨fuel, hf⟩ := h
  rcases Deep.open_slice_pairs Try.underlying22 Try.underlying30 (by kernel_rfl) rfl rfl (by kernel_rfl) (by kernel_rfl) hf with ⟨hcs, _⟩ | ⟨x, l, c, m, n, V0, V1, D0, D1, P0, P1, hcs, _, hl, hm, hmm, _, hcell⟩
  · simp [Value.cells] at hcs
    obtain ⟨rfl, rfl, rfl⟩ := hcs
    exact ⟨fun _ => ByteArray.empty, fun _ => ByteArray.empty, ⟨fun _ => by simp, by simp⟩, by simp, fun _ => ⟨rfl, rfl⟩⟩
  · simp [Value.cells] at hcs
    obtain ⟨rfl, rfl, rfl⟩ := hcs
    simp only [if_true] at hmm
    subst hmm
    have each : ∀ i, i < m → ∃ s t : ByteArray, V0 i = .string s ∧ s.size ≤ maxLen ∧ V1 i = .string t ∧ t.size ≤ maxLen := fun i hi => by
      obtain ⟨_, _, g0, g1⟩ := hcell i hi
      obtain ⟨s, hs, _, hsz⟩ := DataW.trod_string Try.underlying9 g0
      obtain ⟨t, ht, _, htz⟩ := DataW.trod_string Try.underlying9 g1
      exact ⟨s, t, by simpa using hs, hsz, by simpa using ht, htz⟩
    refine ⟨fun i => if i < m then strIn (V0 i) else ByteArray.empty, fun i => if i < m then strIn (V1 i) else ByteArray.empty, ⟨fun i => ?_, fun h0 => ?_⟩, by omega, by simp⟩
    · by_cases hi : i < m
      · obtain ⟨s, t, e1, e2, e3, e4⟩ := each i hi
        simp only [if_pos hi, e1, e3, strIn]
        exact ⟨e2, e4⟩
      · simp only [if_neg hi]
        exact ⟨by simp, by simp⟩
    · obtain ⟨b, off, spot⟩ := x
      obtain ⟨c0, _⟩ := hcell 0 (by omega)
      have hspot : spot = none := by simpa [Addr.add] using World.cell?_spot c0
      subst hspot
      refine ⟨b, off, rfl, ?_, fun i hi => ?_⟩
      · by_cases hb : b < W.heap.size
        · exact hb
        · have : W.heap[b]? = none := Array.getElem?_eq_none (by omega)
          simp [World.cell?, this, Addr.add] at c0
      · obtain ⟨s, t, e1, e2, e3, e4⟩ := each i (by omega)
        obtain ⟨g1, g2, _⟩ := hcell i (by omega)
        have ea : ∀ j, (⟨b, off, none⟩ : Addr).add j = ⟨b, off + j, none⟩ := fun j => by cases j <;> simp [Addr.add]
        rw [ea] at g1 g2
        simp only [if_pos (show i < m by omega), e1, e3, strIn]
        exact ⟨by rw [g1, e1], by rw [Nat.add_assoc, g2, e3]⟩

set_option maxRecDepth 100000 in
theorem lifted (os : Os) (started : os.Started) (H : Type) (enc : TypeId × Value → H) :
    ReturnsInHanded {} Try.checked os 3 .any (Rows.fnGeneralMatchesIsSubsetOrderSpec.pre6 enc Try.prog Try.f3 Rows.fnGeneralMatchesIsSubsetOrderRow.domain false) (Rows.fnGeneralMatchesIsSubsetOrderSpec.post enc Try.prog Try.f3 false true false false) := by
  refine returnsInHanded_of_change (C := Try.checked) own started (by kernel_rfl) Try.func3
    (ChangeSpec.witness6 (enc := enc) (C := Try.checked) false ⟨#[], #[.slice none 0 0, .slice none 0 0, .slice none 0 0, .string ByteArray.empty], []⟩ 8 (by kernel_rfl) (by kernel_rfl) (by kernel_rfl) (by kernel_rfl)) ?_
  intro W base args ds gs before hval0 hW hcnd _
  have hval : ∀ (j : Nat) t v, Try.f3.params[j]? = some t → args[j]? = some v → Value.okWide Try.prog W .any base t v := hval0
  have hW' := hW
  obtain ⟨p, q, hA0, hV, rfl, hfz, hnd⟩ := hW
  have hA : DataW.TrodAll enc Try.prog W 0 (fun _ => true) true Try.f3.params.toList args.toList ds p := hA0
  rw [Try.params3] at hA hval
  obtain ⟨v0, vs0, d0, ds0, p0, q0, hargs, rfl, rfl, h0, r0⟩ := trodAll_cons hA
  obtain ⟨v1, vs1, d1, ds1, p1, q1, rfl, rfl, rfl, h1, r1⟩ := trodAll_cons r0
  obtain ⟨v2, vs2, d2, ds2, p2, q2, rfl, rfl, rfl, h2, r2⟩ := trodAll_cons r1
  obtain ⟨v3, vs3, d3, ds3, p3, q3, rfl, rfl, rfl, h3, r3⟩ := trodAll_cons r2
  obtain ⟨rfl, rfl, rfl⟩ := trodAll_nil r3
  obtain rfl : args = #[v0, v1, v2, v3] := by cases args; simp_all
  obtain ⟨rfl, rfl⟩ := trodVars_none hV
  obtain ⟨a0, l0, c0, rfl⟩ := okWide_slice Try.underlying22 (hval 0 22 v0 rfl rfl)
  obtain ⟨a1, l1, c1, rfl⟩ := okWide_slice Try.underlying22 (hval 1 22 v1 rfl rfl)
  obtain ⟨a2, l2, c2, rfl⟩ := okWide_slice Try.underlying22 (hval 2 22 v2 rfl rfl)
  have lt0 : ∀ x ∈ p0, x.block < W.heap.size := by obtain ⟨m, hm⟩ := h0; exact DataW.trod_lt m _ _ _ hm
  have lt1 : ∀ x ∈ p1, x.block < W.heap.size := by obtain ⟨m, hm⟩ := h1; exact DataW.trod_lt m _ _ _ hm
  have lt2 : ∀ x ∈ p2, x.block < W.heap.size := by obtain ⟨m, hm⟩ := h2; exact DataW.trod_lt m _ _ _ hm
  obtain ⟨n0, x0, w0, m0, e0⟩ := attrs_of h0
  obtain ⟨n1, x1, w1, m1, e1⟩ := attrs_of h1
  obtain ⟨n2, x2, w2, m2, e2⟩ := attrs_of h2
  obtain ⟨s1, rfl, rfl, rfl, hs1⟩ := open_string Try.underlying9 (hval 3 9 v3 rfl rfl) h3
  clear hA0 hval0
  refine (law_any a0 a1 a2 l0 l1 l2 c0 c1 c2 n0 x0 n1 x1 n2 x2 s1 W w0 w1 w2 m0 m1 m2 hs1 e0 e1 e2).mono fun e W' ⟨he, bel⟩ => ?_
  subst he
  exact ⟨_, rfl, _, _, _, [], _, [], hW', trodAll_mk1 (shut_bool Try.underlying4 _), (trodAll_mk4 (Below.trod laidOut (by kernel_rfl) (of_decide_eq_true (by kernel_rfl)) h0 bel lt0) (Below.trod laidOut (by kernel_rfl) (of_decide_eq_true (by kernel_rfl)) h1 bel lt1) (Below.trod laidOut (by kernel_rfl) (of_decide_eq_true (by kernel_rfl)) h2 bel lt2) (shut_string Try.underlying9 hs1)), rfl, bel.frame _, fun h => by cases h⟩

/-- THE STATEMENT. -/
theorem fnGeneralMatches_proved : Rows.FnGeneralMatchesIsSubsetOrderSaid :=
  OpenClaim.holds_of_wide 3 Try.f3 rfl rfl rfl rfl rfl rfl rfl ⟨rfl, rfl, rfl, rfl, rfl⟩ rfl rfl rfl rfl rfl (by kernel_rfl) Try.func3 (by kernel_rfl)
    (of_decide_eq_true (by kernel_rfl)) (by unfold Func.isWrapper; first | (rw [if_pos (by decide +kernel)]; kernel_rfl) | (rw [if_neg (by decide +kernel)]; exact ⟨rfl, rfl⟩))
    (fun os started H enc _ => lifted os started H enc)
#print axioms fnGeneralMatches_proved
end Go.Proofs.Qxb6602695a
