import Derived.Test.Qxb6602821aLatest
import Derived.ProofKit
import Derived.ShutString
import Derived.ChangeOld
import Derived.Deep.SlicePairs
namespace Go.Proofs.Qxb6602821a
open Go.ChangeShapes Go.WideShapes Go.ChangeAt Go.RowKit
open Go.ChangeMaps (open_string shut_string)

theorem own2 : ownKnob Try.prog.godebug = none := by kernel_rfl
theorem laidOut2 : laidOutB Try.prog = true := by kernel_rfl

/-- The string and the number in a value that is one. -/
def strOf2 : Value → ByteArray | .string s => s | _ => ByteArray.empty
def intOf2 : Value → Int | .int _ n => n | _ => 0

theorem add_off (b off j : Nat) : (⟨b, off, none⟩ : Addr).add j = ⟨b, off + j, none⟩ := by cases j <;> simp [Addr.add]

theorem lt_of_cell {W : World} {b off : Nat} {v : Value} (h : W.cell? ⟨b, off, none⟩ = some v) : b < W.heap.size := by
  by_cases hb : b < W.heap.size
  · exact hb
  · have : W.heap[b]? = none := Array.getElem?_eq_none (by omega)
    simp [World.cell?, this] at h

/-- A slice of ZZTier that was read. -/
theorem tiers_of {H : Type} {enc : TypeId × Value → H} {W : World} {n : Nat} {v : Value} {y : DataW H × List MemPlace} (h : DataW.trod enc Try.prog W 0 (fun _ => true) true n 39 [v] = some y) :
    ∃ tp tl tc lab mn, v = .slice tp tl tc ∧ Tiers2 W tp tl lab mn ∧ (tp = none → tl = 0 ∧ tc = 0) ∧ tl ≤ maxLen := by
  rcases Deep.open_slice_pairs Try.underlying39 Try.underlying43 (by kernel_rfl) rfl rfl (by kernel_rfl) (by kernel_rfl) h with ⟨hcs, _⟩ | ⟨x, l, c, m, n', V0, V1, D0, D1, P0, P1, hcs, _, hl, hm, hmm, _, hcell⟩
  · simp only [List.cons.injEq, and_true] at hcs
    exact ⟨none, 0, 0, fun _ => ByteArray.empty, fun _ => 0, hcs, fun h0 => by omega, fun _ => ⟨rfl, rfl⟩, by simp⟩
  · simp only [List.cons.injEq, and_true] at hcs
    simp only [if_true] at hmm
    subst hmm
    have each : ∀ i, i < m → ∃ (s : ByteArray) (t : Int), V0 i = .string s ∧ V1 i = .int .i64 t := fun i hi => by
      obtain ⟨_, _, g0, g1⟩ := hcell i hi
      obtain ⟨s, hs, _⟩ := DataW.trod_string Try.underlying9 g0
      obtain ⟨t, ht, _⟩ := DataW.trod_int Try.underlying3 g1
      exact ⟨s, t, by simpa using hs, by simpa using ht⟩
    refine ⟨some x, l, m, fun i => strOf2 (V0 i), fun i => intOf2 (V1 i), hcs, fun h0 => ?_, by simp, by omega⟩
    obtain ⟨b, off, spot⟩ := x
    obtain ⟨c0, _⟩ := hcell 0 (by omega)
    have hspot : spot = none := by simpa [Addr.add] using World.cell?_spot c0
    subst hspot
    have c0' : W.cell? ⟨b, off, none⟩ = some (V0 0) := by simpa [Addr.add] using c0
    refine ⟨b, off, rfl, lt_of_cell c0', fun i hi => ?_⟩
    obtain ⟨s, t, e1, e3⟩ := each i (by omega)
    obtain ⟨g1, g2, _⟩ := hcell i (by omega)
    rw [add_off] at g1 g2
    simp only [e1, e3, strOf2, intOf2]
    exact ⟨by rw [g1, e1], by rw [Nat.add_assoc, g2, e3]⟩

/-- A pointer to a string that was read. -/
theorem target_of {H : Type} {enc : TypeId × Value → H} {W : World} {n : Nat} {v : Value} {y : DataW H × List MemPlace} (h : DataW.trod enc Try.prog W 0 (fun _ => true) true n 27 [v] = some y) :
    ∃ p d, v = .pointer p ∧ ∀ ad, p = some ad → ∃ b' off', ad = ⟨b', off', none⟩ ∧ b' < W.heap.size ∧ W.cell? ⟨b', off', none⟩ = some (.string d) := by
  rcases DataW.trod_pointer Try.underlying27 h with ⟨hcs, _⟩ | ⟨a, cs', y', n', _, hcs, _, hc, hy⟩
  · simp only [List.cons.injEq, and_true] at hcs
    exact ⟨none, ByteArray.empty, hcs, fun ad had => by cases had⟩
  · simp only [List.cons.injEq, and_true] at hcs
    obtain ⟨s, hs, _⟩ := DataW.trod_string Try.underlying9 hy
    subst hs
    have hc9 : Try.prog.cellsOf 9 = 1 := by kernel_rfl
    rw [hc9] at hc
    have hcell := cell_of_cells?_one hc
    refine ⟨some a, s, hcs, fun ad had => ?_⟩
    simp only [Option.some.injEq] at had
    subst had
    obtain ⟨b, off, spot⟩ := a
    have hspot : spot = none := by simpa [Addr.add] using World.cell?_spot hcell
    subst hspot
    exact ⟨b, off, rfl, lt_of_cell hcell, hcell⟩

/-- One ZZCfg that was read: its four cells. -/
theorem cfg_of {H : Type} {enc : TypeId × Value → H} {W : World} {n : Nat} {vs : List Value} {y : DataW H × List MemPlace} (h : DataW.trod enc Try.prog W 0 (fun _ => true) true n 41 vs = some y) :
    ∃ (q : Cfg × (Nat → ByteArray) × (Nat → Int)), vs = [.int .i64 q.1.ver, .pointer q.1.ptr, .int .i64 q.1.near, .slice q.1.tp q.1.tl q.1.tc] ∧
      (∀ ad, q.1.ptr = some ad → ∃ b' off', ad = ⟨b', off', none⟩ ∧ b' < W.heap.size ∧ W.cell? ⟨b', off', none⟩ = some (.string q.1.date)) ∧
      Tiers2 W q.1.tp q.1.tl q.2.1 q.2.2 ∧ (q.1.tp = none → q.1.tl = 0 ∧ q.1.tc = 0) ∧ q.1.tl ≤ maxLen := by
  obtain ⟨xs, k, hk, hxy, hlen, hxl, hf⟩ := DataW.trod_struct Try.underlying41 h
  have h41 : Try.prog.cellsOf 41 = 4 := by kernel_rfl
  have h3 : Try.prog.cellsOf 3 = 1 := by kernel_rfl
  have h27 : Try.prog.cellsOf 27 = 1 := by kernel_rfl
  have h39 : Try.prog.cellsOf 39 = 1 := by kernel_rfl
  rw [h41] at hlen
  match xs, hxl, vs, hlen with
  | [y0, y1, y2, y3], _, [v0, v1, v2, v3], _ =>
    have g0 := hf 0 _ rfl
    have g1 := hf 1 _ rfl
    have g2 := hf 2 _ rfl
    have g3 := hf 3 _ rfl
    simp [h3, h27, h39] at g0 g1 g2 g3
    obtain ⟨a, ha, _⟩ := DataW.trod_int Try.underlying3 g0
    obtain ⟨p, d, hp, htar⟩ := target_of g1
    obtain ⟨m, hm, _⟩ := DataW.trod_int Try.underlying3 g2
    obtain ⟨tp, tl, tc, lab, mn, ht, hT, hTn, hTm⟩ := tiers_of g3
    simp only [List.cons.injEq, and_true] at ha hm
    refine ⟨(⟨a, p, m, tp, tl, tc, d⟩, lab, mn), by rw [ha, hp, hm, ht], htar, hT, hTn, hTm⟩

/-- A slice of ZZCfg that was read is what the walk asks. -/
theorem in_of {H : Type} {enc : TypeId × Value → H} {W : World} {ao : Option Addr} {len cap : Nat} {d : DataW H} {p : List MemPlace} (h : DataW.Trod enc Try.prog W 0 (fun _ => true) true 22 (.slice ao len cap) d p) :
    ∃ cs lab mn, In W ao len cs lab mn ∧ len ≤ maxLen ∧ (ao = none → len = 0 ∧ cap = 0) := by
  obtain ⟨fuel, hf⟩ := h
  rcases Deep.open_slice Try.underlying22 hf with ⟨hcs, _⟩ | ⟨x, l, c, m, n, D, Pl, hcs, _, hl, hm, hmm, _, hx⟩
  · simp [Value.cells] at hcs
    obtain ⟨rfl, rfl, rfl⟩ := hcs
    exact ⟨fun _ => ⟨0, none, 0, none, 0, 0, ByteArray.empty⟩, fun _ _ => ByteArray.empty, fun _ _ => 0, ⟨fun h0 => by omega, fun i hi => by omega⟩, by simp, fun _ => ⟨rfl, rfl⟩⟩
  · simp [Value.cells] at hcs
    obtain ⟨rfl, rfl, rfl⟩ := hcs
    simp only [if_true] at hmm
    subst hmm
    have h41 : Try.prog.cellsOf 41 = 4 := by kernel_rfl
    rw [h41] at hx
    have each : ∀ i, i < len → ∃ (q : Cfg × (Nat → ByteArray) × (Nat → Int)), W.cells? 0 (x.add (i * 4)) 4 = some [.int .i64 q.1.ver, .pointer q.1.ptr, .int .i64 q.1.near, .slice q.1.tp q.1.tl q.1.tc] ∧
        (∀ ad, q.1.ptr = some ad → ∃ b' off', ad = ⟨b', off', none⟩ ∧ b' < W.heap.size ∧ W.cell? ⟨b', off', none⟩ = some (.string q.1.date)) ∧
        Tiers2 W q.1.tp q.1.tl q.2.1 q.2.2 ∧ (q.1.tp = none → q.1.tl = 0 ∧ q.1.tc = 0) ∧ q.1.tl ≤ maxLen := fun i hi => by
      obtain ⟨vs, h1, h2⟩ := hx i (by omega)
      obtain ⟨q, rfl, r⟩ := cfg_of h2
      exact ⟨q, h1, r⟩
    obtain ⟨Q, hQ⟩ : ∃ Q : Nat → Cfg × (Nat → ByteArray) × (Nat → Int), ∀ i, i < len → W.cells? 0 (x.add (i * 4)) 4 = some [.int .i64 (Q i).1.ver, .pointer (Q i).1.ptr, .int .i64 (Q i).1.near, .slice (Q i).1.tp (Q i).1.tl (Q i).1.tc] ∧
        (∀ ad, (Q i).1.ptr = some ad → ∃ b' off', ad = ⟨b', off', none⟩ ∧ b' < W.heap.size ∧ W.cell? ⟨b', off', none⟩ = some (.string (Q i).1.date)) ∧
        Tiers2 W (Q i).1.tp (Q i).1.tl (Q i).2.1 (Q i).2.2 ∧ ((Q i).1.tp = none → (Q i).1.tl = 0 ∧ (Q i).1.tc = 0) ∧ (Q i).1.tl ≤ maxLen :=
      ⟨fun i => if hi : i < len then Classical.choose (each i hi) else (⟨0, none, 0, none, 0, 0, ByteArray.empty⟩, fun _ => ByteArray.empty, fun _ => 0), fun i hi => by
        simp only [dif_pos hi]
        exact Classical.choose_spec (each i hi)⟩
    refine ⟨fun i => (Q i).1, fun i => (Q i).2.1, fun i => (Q i).2.2, ⟨fun h0 => ?_, fun i hi => (hQ i hi).2.2⟩, by omega, by simp⟩
    obtain ⟨b, off, spot⟩ := x
    obtain ⟨_, _, hc0⟩ := World.cells?_some (hQ 0 h0).1
    have c0 := hc0 0 (by omega)
    have hspot : spot = none := by simpa [Addr.add] using World.cell?_spot c0
    subst hspot
    have c0' : W.cell? ⟨b, off, none⟩ = some (.int .i64 (Q 0).1.ver) := by simpa [Addr.add] using c0
    refine ⟨b, off, rfl, lt_of_cell c0', fun i hi => ?_⟩
    obtain ⟨_, _, hci⟩ := World.cells?_some (hQ i hi).1
    rw [add_off] at hci
    have k0 := hci 0 (by omega)
    have k1 := hci 1 (by omega)
    have k2 := hci 2 (by omega)
    have k3 := hci 3 (by omega)
    rw [add_off] at k0 k1 k2 k3
    exact ⟨by simpa using k0, by simpa using k1, by simpa using k2, by simpa using k3, (hQ i hi).2.1⟩

set_option maxRecDepth 100000 in
theorem latest_lifted (os : Os) (started : os.Started) (H : Type) (enc : TypeId × Value → H) :
    ReturnsInHanded {} Try.checked os 3 .any (Rows.fnVersionInForceLatestDateOnOrBeforeSpec.pre6 enc Try.prog Try.f3 Rows.fnVersionInForceLatestDateOnOrBeforeRow.domain false) (Rows.fnVersionInForceLatestDateOnOrBeforeSpec.post enc Try.prog Try.f3 false true false false) := by
  refine returnsInHanded_of_change (C := Try.checked) own2 started (by kernel_rfl) Try.func3
    (ChangeSpec.witness6 (enc := enc) (C := Try.checked) false ⟨#[], #[.slice none 0 0, .string ByteArray.empty], []⟩ 8 (by kernel_rfl) (by kernel_rfl) (by kernel_rfl) (by kernel_rfl)) ?_
  intro W base args ds gs before hval0 hW hcnd _
  have hval : ∀ (j : Nat) t v, Try.f3.params[j]? = some t → args[j]? = some v → Value.okWide Try.prog W .any base t v := hval0
  have hW' := hW
  obtain ⟨p, q, hA0, hV, rfl, hfz, hnd⟩ := hW
  have hA : DataW.TrodAll enc Try.prog W 0 (fun _ => true) true Try.f3.params.toList args.toList ds p := hA0
  rw [Try.params3] at hA hval
  obtain ⟨v0, vs0, d0, ds0, p0, q0, hargs, rfl, rfl, h0, r0⟩ := trodAll_cons hA
  obtain ⟨v1, vs1, d1, ds1, p1, q1, rfl, rfl, rfl, h1, r1⟩ := trodAll_cons r0
  obtain ⟨rfl, rfl, rfl⟩ := trodAll_nil r1
  obtain rfl : args = #[v0, v1] := by cases args; simp_all
  obtain ⟨rfl, rfl⟩ := trodVars_none hV
  obtain ⟨a0, l0, c0, rfl⟩ := okWide_slice Try.underlying22 (hval 0 22 v0 rfl rfl)
  have lt0 : ∀ x ∈ p0, x.block < W.heap.size := by obtain ⟨m, hm⟩ := h0; exact DataW.trod_lt m _ _ _ hm
  obtain ⟨cs, lab, mn, w0, m0, e0⟩ := in_of h0
  obtain ⟨s1, rfl, rfl, rfl, hs1⟩ := open_string Try.underlying9 (hval 1 9 v1 rfl rfl) h1
  clear hA0 hval0
  refine (latest_any a0 l0 c0 cs lab mn s1 W w0 m0 e0).mono fun e W' ⟨he, bel⟩ => ?_
  subst he
  exact ⟨_, rfl, _, _, _, [], _, [], hW', trodAll_mk1 (shut_bool Try.underlying4 _), (trodAll_mk2 (Below.trod laidOut2 (by kernel_rfl) (of_decide_eq_true (by kernel_rfl)) h0 bel lt0) (shut_string Try.underlying9 hs1)), rfl, bel.frame _, fun h => by cases h⟩

/-- THE STATEMENT. -/
theorem fnLatest_proved : Rows.FnVersionInForceLatestDateOnOrBeforeSaid :=
  OpenClaim.holds_of_wide 3 Try.f3 rfl rfl rfl rfl rfl rfl rfl ⟨rfl, rfl, rfl, rfl, rfl⟩ rfl rfl rfl rfl rfl (by kernel_rfl) Try.func3 (by kernel_rfl)
    (of_decide_eq_true (by kernel_rfl)) (by unfold Func.isWrapper; first | (rw [if_pos (by decide +kernel)]; kernel_rfl) | (rw [if_neg (by decide +kernel)]; exact ⟨rfl, rfl⟩))
    (fun os started H enc _ => latest_lifted os started H enc)
#print axioms fnLatest_proved
end Go.Proofs.Qxb6602821a
