import Derived.Test.Qxb6602695aBytes
import Derived.Deep.QuietTactic
import Derived.BigQuiet
namespace Go.Proofs.Qxb6602695a
open Go.RowKit

/-- It returned an int. -/
def SomeInt (e : Ending) : Prop := ∃ t : Int, e = .returned (.int .i64 t)

theorem Attrs.below {w w1 : World} {ao : Option Addr} {len : Nat} {nm vl : Nat → ByteArray} (h : Attrs w ao len nm vl) (hb : Below w.heap.size w w1) : Attrs w1 ao len nm vl := by
  refine ⟨h.1, fun h0 => ?_⟩
  obtain ⟨b, off, h1, h2, h3⟩ := h.2 h0
  exact ⟨b, off, h1, Nat.lt_of_lt_of_le h2 hb.size, fun i hi => ⟨(hb.cell (by exact h2)).trans (h3 i hi).1, (hb.cell (by exact h2)).trans (h3 i hi).2⟩⟩

set_option maxRecDepth 100000 in
set_option maxHeartbeats 800000 in
theorem attrBytes_any (ao : Option Addr) (len cap : Nat) (nm vl : Nat → ByteArray) (w : World) (hS : Attrs w ao len nm vl) (hm : len ≤ maxLen) :
    Calls Try.prog 5 #[.slice ao len cap] w fun e w' => SomeInt e ∧ Below w.heap.size w w' := by
  unfold maxLen at hm
  by_cases hl : len ≤ 65536
  · go_enter Try.func5, Try.ntmps5
    go_wp2
    go_loopw [3, 4] (fun n i wr => ∃ k m : Nat, k ≤ len ∧ i = .int .i64 k ∧ n = .int .i64 m ∧ m ≤ 1048576 ∧ Below w.heap.size w wr) (fun _ i _ => len - (intOf i).toNat)
    case atStart => exact ⟨0, 0, by omega, rfl, rfl, by omega, Below.refl _ _⟩
    case round =>
      obtain ⟨k, m, hk, rfl, rfl, hm1, hB⟩ := hrel
      by_cases hlt : k < len
      · obtain ⟨b, off, had, hb, hc⟩ := hS.2 (by omega)
        subst had
        have hc1 := (hB.cell (by exact hb)).trans (hc k hlt).1
        have hc2 := (hB.cell (by exact hb)).trans (hc k hlt).2
        generalize nm k = x at hc1
        generalize vl k = y at hc2
        have hkI : (k : Int) < (len : Int) := by omega
        clear hc
        by_cases hx : x.size ≤ 1048576
        · by_cases hy : y.size ≤ 1048576
          · go_wp2
            go_quiet (fail)
            go_wp2
            · go_ret; exact ⟨⟨_, rfl⟩, below_drewN hB _⟩
            · go_roundw
              case rel => exact ⟨k + 1, m + (32 + x.size + y.size), by omega, by go_num, by go_num, by omega, below_drewN hB _⟩
              case measure => simp [intOf]; omega
          · go_wp2
            go_ret; exact ⟨⟨_, rfl⟩, hB⟩
        · go_wp2
          go_ret; exact ⟨⟨_, rfl⟩, hB⟩
      · go_wp2
        go_ret; exact ⟨⟨_, rfl⟩, hB⟩
  · go_enter Try.func5, Try.ntmps5
    go_wp2
    go_ret
    exact ⟨⟨_, rfl⟩, Below.refl _ _⟩

end Go.Proofs.Qxb6602695a
