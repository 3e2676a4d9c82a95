import Derived.Test.Qxb6602821aBase
import Derived.LaidEqlPtr
namespace Go.Proofs.Qxb6602821a
open Go.RowKit

theorem neq_ptr_same (p : Option Addr) (w : World) : (binOp .neq 27 (.pointer p) (.pointer p)).run Try.prog w = .ok (.bool false) w := by
  obtain ⟨j, hj⟩ : ∃ j, Try.prog.info? 9 = some j := Option.isSome_iff_exists.1 (by kernel_rfl)
  cases p with
  | none =>
    have h : ∀ d : Nat, (Op.equalIn (d + 1) 27 (.pointer none) (.pointer none)).run Try.prog w = .ok true w := fun d => by
      simp [Op.equalIn, run_underlying Try.underlying27]
    simp only [binOp]
    simp [Op.equal, Op.maxDepth, h 9999]
  | some a =>
    have h : ∀ d : Nat, (Op.equalIn (d + 1) 27 (.pointer (some a)) (.pointer (some a))).run Try.prog w = .ok true w := fun d => by
      simp [Op.equalIn, run_underlying Try.underlying27, sizeOf, typeInfo, hj, run_sameAddr_same]
    simp only [binOp]
    simp [Op.equal, Op.maxDepth, h 9999]

/-- What a walk is told of a slice of ledger.Tier: each element can be read. -/
def Tiers3 (w : World) (tp : Option Addr) (tl : Nat) : Prop :=
  0 < tl → ∃ b off, tp = some ⟨b, off, none⟩ ∧ b < w.heap.size ∧ ∀ j, j < tl → ∃ (l : ByteArray) (m h : Int), w.cell? ⟨b, off + j * 3, none⟩ = some (.string l) ∧ w.cell? ⟨b, off + j * 3 + 1, none⟩ = some (.int .i64 m) ∧ w.cell? ⟨b, off + j * 3 + 2, none⟩ = some (.int .i64 h)

theorem Tiers3.below {w w1 : World} {tp : Option Addr} {tl : Nat} (h : Tiers3 w tp tl) (hb : Below w.heap.size w w1) : Tiers3 w1 tp tl := by
  intro h0
  obtain ⟨b, off, h1, h2, h3⟩ := h h0
  refine ⟨b, off, h1, Nat.lt_of_lt_of_le h2 hb.size, fun i hi => ?_⟩
  obtain ⟨l, m, h, e0, e1, e2⟩ := h3 i hi
  exact ⟨l, m, h, (hb.cell (by exact h2)).trans e0, (hb.cell (by exact h2)).trans e1, (hb.cell (by exact h2)).trans e2⟩

set_option maxRecDepth 100000 in
set_option maxHeartbeats 800000 in
theorem same_any (v n : Int) (p tp : Option Addr) (tl tc : Nat) (w : World) (hT : Tiers3 w tp tl) (hm : tl ≤ 65536) :
    Calls Try.prog 10 #[.agg #[.int .i64 v, .pointer p, .int .i64 n, .slice tp tl tc], .agg #[.int .i64 v, .pointer p, .int .i64 n, .slice tp tl tc]] w fun e w' => e = .returned (.bool true) ∧ Below w.heap.size w w' := by
  have hpp := neq_ptr_same p
  have hn : ∀ (w : World) (a : Option Addr) (n c n' c' : Nat), (binOp .eql 28 (.slice a n c) (.slice none n' c')).run Try.prog w = .ok (.bool a.isNone) w := fun w a n c n' c' => Lib.run_eql_slice_nil w _ _ a n c n' c' Try.underlying28
  obtain ⟨W0, hW0⟩ : ∃ W0, W0 = (w.alloc (.cells #[.int .i64 v, .pointer p, .int .i64 n, .slice tp tl tc] 30)).alloc (.cells #[.int .i64 v, .pointer p, .int .i64 n, .slice tp tl tc] 30) := ⟨_, rfl⟩
  have hsz : W0.heap.size = w.heap.size + 2 := by rw [hW0]; simp
  have hB0 : Below w.heap.size w W0 := by rw [hW0]; exact ((Below.refl _ _).alloc (Nat.le_refl _) _).alloc (by simp) _
  have r0 : W0.heap[w.heap.size]? = some (.cells #[.int .i64 v, .pointer p, .int .i64 n, .slice tp tl tc] 30 (0, 0)) := by
    rw [hW0, Below.heap_alloc _ _ _ (by simp)]; exact heap_alloc_new w _
  have r1 : W0.heap[w.heap.size + 1]? = some (.cells #[.int .i64 v, .pointer p, .int .i64 n, .slice tp tl tc] 30 (0, 0)) := by
    have := heap_alloc_new (w.alloc (.cells #[.int .i64 v, .pointer p, .int .i64 n, .slice tp tl tc] 30)) (.cells #[.int .i64 v, .pointer p, .int .i64 n, .slice tp tl tc] 30)
    rw [hW0]; simpa using this
  replace hT := hT.below hB0
  have HW : Hid (W0 = (w.alloc (.cells #[.int .i64 v, .pointer p, .int .i64 n, .slice tp tl tc] 30)).alloc (.cells #[.int .i64 v, .pointer p, .int .i64 n, .slice tp tl tc] 30)) := hW0
  have HS : Hid (W0.heap.size = w.heap.size + 2) := hsz
  have R0 : Hid (W0.heap[w.heap.size]? = some (.cells #[.int .i64 v, .pointer p, .int .i64 n, .slice tp tl tc] 30 (0, 0))) := r0
  have R1 : Hid (W0.heap[w.heap.size + 1]? = some (.cells #[.int .i64 v, .pointer p, .int .i64 n, .slice tp tl tc] 30 (0, 0))) := r1
  clear hW0 hsz r0 r1
  go_enter Try.func10, Try.ntmps10
  go_wp2
  rw [← HW.out]
  go_loopw [5] (fun i wr => ∃ j : Nat, j ≤ tl ∧ i = .int .i64 j ∧ Below W0.heap.size W0 wr) (fun i _ => tl - (intOf i).toNat)
  case atStart => exact ⟨0, by omega, rfl, Below.refl _ _⟩
  case round =>
    obtain ⟨j, hj, rfl, hB⟩ := hrel
    have c0 : wr.cell? ⟨w.heap.size, 3, none⟩ = some (.slice tp tl tc) := by
      rw [cell_of_row wr _ 3 _ 30 (0, 0) ((hB.block _ (by rw [HS.out]; omega)).trans R0.out)]; rfl
    have c1 : wr.cell? ⟨w.heap.size + 1, 3, none⟩ = some (.slice tp tl tc) := by
      rw [cell_of_row wr _ 3 _ 30 (0, 0) ((hB.block _ (by rw [HS.out]; omega)).trans R1.out)]; rfl
    by_cases hlt : j < tl
    · obtain ⟨b, off, htd, hb, hc⟩ := hT (by omega)
      subst htd
      obtain ⟨l, m, h, e0, e1, e2⟩ := hc j hlt
      replace e0 := (hB.cell (by exact hb)).trans e0
      replace e1 := (hB.cell (by exact hb)).trans e1
      replace e2 := (hB.cell (by exact hb)).trans e2
      have hjI : (j : Int) < (tl : Int) := by omega
      clear hc
      go_wp2
      go_quiet (fail)
      go_wp2
      go_roundw
      case rel => exact ⟨j + 1, by omega, by go_num, below_drewN hB _⟩
      case measure => simp [intOf]; omega
    · go_wp2
      go_ret
      exact ⟨rfl, hB0.trans (hB.mono hB0.size)⟩

end Go.Proofs.Qxb6602821a
