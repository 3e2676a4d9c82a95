import Derived.Test.Qxb6602695aRows
import Derived.WalkKit
import Derived.WalkSpells
import Derived.WalkLawsBesides
namespace Go.Proofs.Qxb6602695a
open Go.RowKit

/-- What a walk is told of a slice of attributes: element i holds the strings nm i and vl i, in the world w. -/
def Attrs (w : World) (ao : Option Addr) (len : Nat) (nm vl : Nat → ByteArray) : Prop :=
  (∀ i, (nm i).size ≤ maxLen ∧ (vl i).size ≤ maxLen) ∧
  (0 < len → ∃ b off, ao = some ⟨b, off, none⟩ ∧ b < w.heap.size ∧ ∀ i, i < len → w.cell? ⟨b, off + i * 2, none⟩ = some (.string (nm i)) ∧ w.cell? ⟨b, off + i * 2 + 1, none⟩ = some (.string (vl i)))

/-- It returned a bool. -/
def SomeBool (e : Ending) : Prop := ∃ r, e = .returned (.bool r)

set_option maxRecDepth 100000 in
set_option maxHeartbeats 1600000 in
theorem zzBytes_any (a0 a1 a2 : Option Addr) (l0 l1 l2 c0 c1 c2 : Nat) (n0 v0 n1 v1 n2 v2 : Nat → ByteArray) (s : ByteArray) (w : World) (h0 : Attrs w a0 l0 n0 v0) (h1 : Attrs w a1 l1 n1 v1) (h2 : Attrs w a2 l2 n2 v2) (m0 : l0 ≤ maxLen) (m1 : l1 ≤ maxLen) (m2 : l2 ≤ maxLen) :
    Calls Try.prog 4 #[.slice a0 l0 c0, .slice a1 l1 c1, .slice a2 l2 c2, .string s] w fun e w' => SomeBool e ∧ w' = w := by
  unfold maxLen at m0 m1 m2
  by_cases d0 : l0 ≤ 1048576
  · go_enter Try.func4, Try.ntmps4
    go_wp2
    go_loop [9, 10] (fun n i => ∃ k : Nat, k ≤ l0 ∧ i = .int .i64 k ∧ ∃ t : Int, n = .int .i64 t) (fun _ i => l0 - (intOf i).toNat)
    case atStart => exact ⟨0, by omega, rfl, _, rfl⟩
    case round =>
      obtain ⟨k, hk, rfl, t, rfl⟩ := hrel
      by_cases hlt : k < l0
      · obtain ⟨b, off, had, hb, hc⟩ := h0.2 (by omega)
        subst had
        obtain ⟨hc1, hc2⟩ := hc k hlt
        generalize n0 k = x at hc1
        generalize v0 k = y at hc2
        clear hc
        go_wp2
        · go_ret; exact ⟨⟨_, rfl⟩, rfl⟩
        · go_ret; exact ⟨⟨_, rfl⟩, rfl⟩
        · go_ret; exact ⟨⟨_, rfl⟩, rfl⟩
        · go_ret; exact ⟨⟨_, rfl⟩, rfl⟩
        · go_round
          case rel => exact ⟨k + 1, by omega, by go_num, _, rfl⟩
          case measure => simp [intOf]; omega
      · go_wp2
        · go_ret; exact ⟨⟨_, rfl⟩, rfl⟩
        · go_ret; exact ⟨⟨_, rfl⟩, rfl⟩
        · skip
          go_loop [9, 11] (fun n i => ∃ k : Nat, k ≤ l1 ∧ i = .int .i64 k ∧ ∃ t : Int, n = .int .i64 t) (fun _ i => l1 - (intOf i).toNat)
          case atStart => exact ⟨0, by omega, rfl, _, rfl⟩
          case round =>
            obtain ⟨k, hk, rfl, t, rfl⟩ := hrel
            by_cases hlt : k < l1
            · obtain ⟨b, off, had, hb, hc⟩ := h1.2 (by omega)
              subst had
              obtain ⟨hc1, hc2⟩ := hc k hlt
              generalize n1 k = x at hc1
              generalize v1 k = y at hc2
              clear hc
              go_wp2
              · go_ret; exact ⟨⟨_, rfl⟩, rfl⟩
              · go_ret; exact ⟨⟨_, rfl⟩, rfl⟩
              · go_ret; exact ⟨⟨_, rfl⟩, rfl⟩
              · go_ret; exact ⟨⟨_, rfl⟩, rfl⟩
              · go_round
                case rel => exact ⟨k + 1, by omega, by go_num, _, rfl⟩
                case measure => simp [intOf]; omega
            · go_wp2
              · go_ret; exact ⟨⟨_, rfl⟩, rfl⟩
              · go_ret; exact ⟨⟨_, rfl⟩, rfl⟩
              · skip
                go_loop [9, 12] (fun n i => ∃ k : Nat, k ≤ l2 ∧ i = .int .i64 k ∧ ∃ t : Int, n = .int .i64 t) (fun _ i => l2 - (intOf i).toNat)
                case atStart => exact ⟨0, by omega, rfl, _, rfl⟩
                case round =>
                  obtain ⟨k, hk, rfl, t, rfl⟩ := hrel
                  by_cases hlt : k < l2
                  · obtain ⟨b, off, had, hb, hc⟩ := h2.2 (by omega)
                    subst had
                    obtain ⟨hc1, hc2⟩ := hc k hlt
                    generalize n2 k = x at hc1
                    generalize v2 k = y at hc2
                    clear hc
                    go_wp2
                    · go_ret; exact ⟨⟨_, rfl⟩, rfl⟩
                    · go_ret; exact ⟨⟨_, rfl⟩, rfl⟩
                    · go_ret; exact ⟨⟨_, rfl⟩, rfl⟩
                    · go_ret; exact ⟨⟨_, rfl⟩, rfl⟩
                    · go_round
                      case rel => exact ⟨k + 1, by omega, by go_num, _, rfl⟩
                      case measure => simp [intOf]; omega
                  · go_wp2
                    all_goals (go_ret; exact ⟨⟨_, rfl⟩, rfl⟩)
  · go_enter Try.func4, Try.ntmps4
    go_wp2
    go_ret
    exact ⟨⟨_, rfl⟩, rfl⟩

end Go.Proofs.Qxb6602695a
