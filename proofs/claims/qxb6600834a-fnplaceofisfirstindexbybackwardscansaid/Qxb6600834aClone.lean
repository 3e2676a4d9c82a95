import Derived.Test.Qxb6600834aPlace
namespace Go.Proofs.Qxb6600834a
open Go.RowKit

theorem Try.info9 : (Try.prog.info? 9).map (fun i => (i.zero, i.size, i.bytes)) = some (some (.string ByteArray.empty), 1, 16) := by kernel_rfl

/-- A row of the call's own of which the first k cells hold the first k strings of ss. -/
def Filled (B g len : Nat) (ss : List ByteArray) (k : Nat) (w : World) : Prop :=
  ∃ xs, w.ownsRow B 9 1 (.slice (some ⟨g, 0, none⟩) len len) len xs ∧ ∀ j, j < k → xs[j]? = some (.string (ss.getD j ByteArray.empty))

theorem Filled.cell {B g len ss k w} (h : Filled B g len ss k w) (j : Nat) (hj : j < len) : ∃ v, w.cell? ⟨g, j, none⟩ = some v := by
  obtain ⟨xs, ho, _⟩ := h
  have h1 := ho.cellAt j (by omega)
  have hl : xs.length = len * 1 := ho.1
  exact ⟨xs[j]'(by omega), by rw [h1, List.getElem?_eq_getElem]⟩
theorem Filled.frozen {B g len ss k w} (h : Filled B g len ss k w) (j : Nat) : w.frozen? ⟨g, j, none⟩ = false := by
  obtain ⟨xs, ho, _⟩ := h
  exact ho.frozenAt j
theorem Filled.step {B g len ss k w} (h : Filled B g len ss k w) (hk : k < len) : Filled B g len ss (k + 1) (w.setCell ⟨g, k, none⟩ (.string (ss.getD k ByteArray.empty))) := by
  obtain ⟨xs, ho, hx⟩ := h
  refine ⟨_, (ho.stored k _).1, fun j hj => ?_⟩
  have hl : xs.length = len * 1 := ho.1
  by_cases e : j = k
  · subst e; rw [List.getElem?_set_self (by omega)]
  · rw [List.getElem?_set_ne (by omega)]; exact hx j (by omega)
theorem Filled.strs {B g len ss w} (h : Filled B g len ss len w) (hl : ss.length = len) : Strs w (some ⟨g, 0, none⟩) len ss := by
  obtain ⟨xs, ho, hx⟩ := h
  refine ⟨hl, fun _ => ⟨g, 0, rfl, ?_, fun i hi => ?_⟩⟩
  · rcases ho.2 with ⟨h', _⟩ | ⟨g', cap', cur, h', _, hg, _⟩
    · simp at h'
    · simp only [Value.slice.injEq, Option.some.injEq, Addr.mk.injEq, and_true, true_and] at h'
      obtain ⟨rfl, rfl⟩ := h'
      exact (Array.getElem?_eq_some_iff.1 hg).1
  · rw [Nat.zero_add, ho.cellAt i (by omega)]; exact hx i hi

/-- It returned a slice of its own whose elements are ss. -/
def RetStrs (w : World) (len : Nat) (ss : List ByteArray) (e : Ending) (w' : World) : Prop := ∃ ao' cap', e = .returned (.slice ao' len cap') ∧ Strs w' ao' len ss ∧ Below w.heap.size w w'

set_option maxHeartbeats 400000 in
theorem clone_any (ao : Option Addr) (len cap : Nat) (ss : List ByteArray) (w : World) (hS : Strs w ao len ss) (hm : len ≤ 65536) (hnil : ao = none → len = 0 ∧ cap = 0) :
    Calls Try.prog 9 #[.slice ao len cap] w fun e w' => RetStrs w len ss e w' := by
  have hn : ∀ (w : World) (a : Option Addr) (n c n' c' : Nat), (binOp .eql 22 (.slice a n c) (.slice none n' c')).run Try.prog w = .ok (.bool a.isNone) w := fun w a n c n' c' => Lib.run_eql_slice_nil w _ _ a n c n' c' Try.underlying22
  obtain ⟨i0, hi, hz0, hz1, hz2⟩ := info_parts Try.info9
  cases ao with
  | none =>
    obtain ⟨rfl, rfl⟩ := hnil rfl
    go_enter Try.func9, Try.ntmps9
    go_wp2
    go_ret
    exact ⟨_, _, rfl, hS, Below.refl _ _⟩
  | some ad =>
    have hbytes : i0.bytes * len ≤ 281474976710656 := by rw [hz2]; omega
    have hml : len ≤ maxLen := by unfold maxLen; omega
    rcases hS.parted with h0 | ⟨b, off, had, hb, hc⟩
    · subst h0
      go_enter Try.func9, Try.ntmps9
      go_wp2_with (at_make; refine wpList_make_full _ rfl _ _ 22 rfl w.heap.size 9 i0 (.string ByteArray.empty) 1 Try.underlying22 hi hz0 hz1 _ _ _ _ 0 rfl rfl (by omega) (by omega) hbytes hml (Nat.le_refl _) ?_; intro w1 hown hgrow)
      have hF : Filled w.heap.size w.heap.size 0 ss 0 w1 := ⟨_, hown, fun j hj => by omega⟩
      have hB : Below w.heap.size w w1 := (Below.refl _ _).grown hgrow (Nat.le_refl _) (by simp)
      clear hown hgrow
      go_loopw [4] (fun i wr => i = .int .i64 0 ∧ wr = w1) (fun i _ => 0 - (intOf i).toNat)
      case atStart => exact ⟨rfl, rfl⟩
      case round =>
        obtain ⟨rfl, rfl⟩ := hrel
        go_wp2
        go_ret
        exact ⟨_, _, rfl, hF.strs hS.1, hB⟩
    · obtain rfl : ad = ⟨b, off, none⟩ := by simpa using had
      go_enter Try.func9, Try.ntmps9
      go_wp2_with (at_make; refine wpList_make_full _ rfl _ _ 22 rfl w.heap.size 9 i0 (.string ByteArray.empty) 1 Try.underlying22 hi hz0 hz1 _ _ _ _ len rfl rfl (by omega) (by omega) hbytes hml (Nat.le_refl _) ?_; intro w1 hown hgrow)
      have hF : Filled w.heap.size w.heap.size len ss 0 w1 := ⟨_, hown, fun j hj => by omega⟩
      have hB : Below w.heap.size w w1 := (Below.refl _ _).grown hgrow (Nat.le_refl _) (by simp)
      clear hown hgrow
      go_loopw [4] (fun i wr => ∃ k : Nat, k ≤ len ∧ i = .int .i64 k ∧ Filled w.heap.size w.heap.size len ss k wr ∧ Below w.heap.size w wr) (fun i _ => len - (intOf i).toNat)
      case atStart => exact ⟨0, by omega, rfl, hF, hB⟩
      case round =>
        clear hF hB
        obtain ⟨k, hk, rfl, hF, hB⟩ := hrel
        by_cases hlt : k < len
        · have hck : wr.cell? ⟨b, off + k, none⟩ = some (.string (ss.getD k ByteArray.empty)) := (hB.cell (by exact hb)).trans (hc k hlt)
          obtain ⟨v, hv⟩ := hF.cell k hlt
          have hfz := hF.frozen k
          have hstep := hF.step hlt
          have hB' := hB.setCell (p := ⟨w.heap.size, k, none⟩) (Nat.le_refl _) (.string (ss.getD k ByteArray.empty))
          generalize ss.getD k ByteArray.empty = x at hck hstep hB'
          clear hc
          go_wp2
          go_roundw
          case rel => exact ⟨k + 1, by omega, by go_num, hstep, hB'⟩
          case measure => simp [intOf]; omega
        · have hkl : k = len := by omega
          subst hkl
          go_wp2
          go_ret
          exact ⟨_, _, rfl, hF.strs hS.1, hB⟩

end Go.Proofs.Qxb6600834a
