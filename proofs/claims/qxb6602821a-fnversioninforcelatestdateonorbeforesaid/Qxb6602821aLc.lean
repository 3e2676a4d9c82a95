import Derived.Test.Qxb6602821aBase
namespace Go.Proofs.Qxb6602821a
open Go.RowKit

/-! ### a row of configs that the call itself makes, filled from the front -/
theorem Try.info30 : (Try.prog.info? 30).map (fun i => (i.zero, i.size, i.bytes)) = some (some (.agg #[.int .i64 0, .pointer none, .int .i64 0, .slice none 0 0]), 4, 48) := by kernel_rfl

/-- The config c stands at place i of the row cur of block g. -/
def At (g : Nat) (w : World) (cur : Array Value) (i : Nat) (c : Cfg) : Prop :=
  cur[i * 4]? = some (.int .i64 c.ver) ∧ cur[i * 4 + 1]? = some (.pointer c.ptr) ∧ cur[i * 4 + 2]? = some (.int .i64 c.near) ∧ cur[i * 4 + 3]? = some (.slice c.tp c.tl c.tc) ∧
  ∀ ad, c.ptr = some ad → ∃ b', ad = ⟨b', 0, none⟩ ∧ b' ≠ g ∧ b' < w.heap.size ∧ w.cell? ⟨b', 0, none⟩ = some (.string c.date)

/-- Block g is a row of N configs: the first k are cs, the rest are zero. -/
def Lc (g N k : Nat) (w : World) (cs : Nat → Cfg) : Prop :=
  ∃ cur, w.heap[g]? = some (.cells cur 30 (0, 0)) ∧ cur.size = N * 4 ∧ (∀ i, i < k → At g w cur i (cs i)) ∧
    ∀ i, k ≤ i → i < N → cur[i * 4]? = some (.int .i64 0) ∧ cur[i * 4 + 1]? = some (.pointer none) ∧ cur[i * 4 + 2]? = some (.int .i64 0) ∧ cur[i * 4 + 3]? = some (.slice none 0 0)

theorem Lc.made {B g N : Nat} {w : World} (cs : Nat → Cfg) (h : w.ownsRow B 30 4 (.slice (some ⟨g, 0, none⟩) N N) N (madeCells (Value.agg #[.int .i64 0, .pointer none, .int .i64 0, .slice none 0 0]).cells (N * 4)).toList) : Lc g N 0 w cs := by
  rcases h.2 with ⟨h', _⟩ | ⟨g', cap', cur, h', _, hg, _, _, hcs, htake⟩
  · simp at h'
  · simp only [Value.slice.injEq, Option.some.injEq, Addr.mk.injEq, and_true, true_and] at h'
    obtain ⟨rfl, rfl⟩ := h'
    refine ⟨cur, hg, hcs, fun i hi => by omega, fun i _ hi => ?_⟩
    have e : (Value.agg #[.int .i64 0, .pointer none, .int .i64 0, .slice none 0 0]).cells = #[.int .i64 0, .pointer none, .int .i64 0, .slice none 0 0] := rfl
    rw [e] at htake
    have hj : ∀ j, j < N * 4 → cur[j]? = (madeCells #[.int .i64 0, .pointer none, .int .i64 0, .slice none 0 0] (N * 4))[j]? := fun j hj => by
      have h1 : (cur.toList.take (N * 4))[j]? = cur[j]? := by rw [List.getElem?_take, if_pos hj]; simp
      rw [← h1, htake]
      simp
    have hm : ∀ j, j < N * 4 → (madeCells #[.int .i64 0, .pointer none, .int .i64 0, .slice none 0 0] (N * 4))[j]? = some (#[Value.int .i64 0, .pointer none, .int .i64 0, .slice none 0 0][j % 4]!) := fun j hj => by
      simp [madeCells, hj]
    refine ⟨?_, ?_, ?_, ?_⟩
    · rw [hj _ (by omega), hm _ (by omega), show (i * 4) % 4 = 0 from by omega]; rfl
    · rw [hj _ (by omega), hm _ (by omega), show (i * 4 + 1) % 4 = 1 from by omega]; rfl
    · rw [hj _ (by omega), hm _ (by omega), show (i * 4 + 2) % 4 = 2 from by omega]; rfl
    · rw [hj _ (by omega), hm _ (by omega), show (i * 4 + 3) % 4 = 3 from by omega]; rfl

theorem Lc.lt {g N k : Nat} {w : World} {cs : Nat → Cfg} (h : Lc g N k w cs) : g < w.heap.size := by
  obtain ⟨cur, h1, _⟩ := h
  exact (Array.getElem?_eq_some_iff.1 h1).1

theorem Lc.cell {g N k : Nat} {w : World} {cs : Nat → Cfg} (h : Lc g N k w cs) (j : Nat) (hj : j < N * 4) : ∃ v, w.cell? ⟨g, j, none⟩ = some v := by
  obtain ⟨cur, h1, h2, _⟩ := h
  exact ⟨cur[j]'(by omega), by rw [cell_of_row w g j cur 30 (0, 0) h1, Array.getElem?_eq_getElem]⟩
theorem Lc.frozen {g N k : Nat} {w : World} {cs : Nat → Cfg} (h : Lc g N k w cs) (j : Nat) : w.frozen? ⟨g, j, none⟩ = false := by
  obtain ⟨cur, h1, _⟩ := h
  exact frozen_of_row w g j cur 30 h1

/-- The row is filled: what a walk is told of a slice of configs. -/
theorem Lc.cfgs {g N : Nat} {w : World} {cs : Nat → Cfg} (h : Lc g N N w cs) : Cfgs w (some ⟨g, 0, none⟩) N cs := by
  have hlt := h.lt
  obtain ⟨cur, h1, h2, h3, _⟩ := h
  intro _
  refine ⟨g, 0, rfl, hlt, fun i hi => ?_⟩
  obtain ⟨e0, e1, e2, e3, e4⟩ := h3 i hi
  simp only [Nat.zero_add]
  refine ⟨by rw [cell_of_row w g _ cur 30 (0, 0) h1]; exact e0, by rw [cell_of_row w g _ cur 30 (0, 0) h1]; exact e1, by rw [cell_of_row w g _ cur 30 (0, 0) h1]; exact e2, by rw [cell_of_row w g _ cur 30 (0, 0) h1]; exact e3, fun ad had => ?_⟩
  obtain ⟨b', f1, _, f3, f4⟩ := e4 ad had
  exact ⟨b', 0, f1, f3, f4⟩

/-- cs with c at place k. -/
def upd (cs : Nat → Cfg) (k : Nat) (c : Cfg) : Nat → Cfg := fun i => if i = k then c else cs i
theorem upd_same (cs : Nat → Cfg) (k : Nat) (c : Cfg) : upd cs k c k = c := by simp [upd]
theorem upd_other (cs : Nat → Cfg) (k : Nat) (c : Cfg) {i : Nat} (h : i ≠ k) : upd cs k c i = cs i := by simp [upd, h]

/-- ONE CONFIG MORE: the world w' has turned nothing that w had but the row in block g, and of that nothing but the cells of place k, which now hold c. -/
theorem Lc.put {g N k : Nat} {w w' : World} {cs : Nat → Cfg} (h : Lc g N k w cs) (hk : k < N) (c : Cfg) (hs : w.heap.size ≤ w'.heap.size) (ho : ∀ b, b < w.heap.size → b ≠ g → w'.heap[b]? = w.heap[b]?)
    (hrow : ∀ cur, w.heap[g]? = some (.cells cur 30 (0, 0)) → cur.size = N * 4 →
      (cur[k * 4]? = some (.int .i64 0) ∧ cur[k * 4 + 1]? = some (.pointer none) ∧ cur[k * 4 + 2]? = some (.int .i64 0) ∧ cur[k * 4 + 3]? = some (.slice none 0 0)) →
      ∃ cur', w'.heap[g]? = some (.cells cur' 30 (0, 0)) ∧ cur'.size = cur.size ∧ (∀ j, j < k * 4 ∨ k * 4 + 4 ≤ j → cur'[j]? = cur[j]?) ∧ At g w' cur' k c) :
    Lc g N (k + 1) w' (upd cs k c) := by
  obtain ⟨cur, h1, h2, h3, h4⟩ := h
  obtain ⟨cur', e1, e2, e3, e4⟩ := hrow cur h1 h2 (h4 k (Nat.le_refl _) hk)
  refine ⟨cur', e1, by omega, fun i hi => ?_, fun i hi hN => ?_⟩
  · by_cases e : i = k
    · subst e; rw [upd_same]; exact e4
    · rw [upd_other _ _ _ e]
      obtain ⟨f0, f1, f2, f3, f4⟩ := h3 i (by omega)
      refine ⟨by rw [e3 _ (by omega)]; exact f0, by rw [e3 _ (by omega)]; exact f1, by rw [e3 _ (by omega)]; exact f2, by rw [e3 _ (by omega)]; exact f3, fun ad had => ?_⟩
      obtain ⟨b', g1, g2, g3, g4⟩ := f4 ad had
      exact ⟨b', g1, g2, Nat.lt_of_lt_of_le g3 hs, (World.cell?_of_block (w := w) (a := ⟨b', 0, none⟩) (ho b' g3 g2)).trans g4⟩
  · rw [e3 _ (by omega), e3 _ (by omega), e3 _ (by omega), e3 _ (by omega)]
    exact h4 i (by omega) hN

end Go.Proofs.Qxb6602821a
