import Derived.Test.Qxb6602716aFields
namespace Go.Proofs.Qxb6602716a
open Go.RowKit

set_option maxRecDepth 100000 in
set_option maxHeartbeats 1600000 in
theorem zzBytes2_any (a0 a1 : Option Addr) (l0 l1 c0 c1 : Nat) (s0 s1 : List ByteArray) (w : World) (h0 : Strs w a0 l0 s0) (h1 : Strs w a1 l1 s1) (m0 : l0 ≤ maxLen) (m1 : l1 ≤ maxLen) :
    Calls Try.prog 14 #[.slice a0 l0 c0, .slice a1 l1 c1] w fun e w' => SomeBool e ∧ w' = w := by
  unfold maxLen at m0 m1
  by_cases d0 : l0 ≤ 1048576
  · go_enter Try.func14, Try.ntmps14
    go_wp2
    go_loop [5, 6] (fun n i => ∃ k : Nat, k ≤ l0 ∧ i = .int .i64 k ∧ ∃ t : Int, n = .int .i64 t) (fun _ i => l0 - (intOf i).toNat)
    case atStart => exact ⟨0, by omega, rfl, _, rfl⟩
    case round =>
      obtain ⟨k, hk, rfl, t, rfl⟩ := hrel
      by_cases hlt : k < l0
      · obtain ⟨b, off, had, hb, hc⟩ := h0.2 (by omega)
        subst had
        have hck := hc k hlt
        generalize s0.getD k ByteArray.empty = x at hck
        clear hc
        go_wp2
        · go_ret; exact ⟨⟨_, rfl⟩, rfl⟩
        · go_ret; exact ⟨⟨_, rfl⟩, rfl⟩
        · go_round
          case rel => exact ⟨k + 1, by omega, by go_num, _, rfl⟩
          case measure => simp [intOf]; omega
      · go_wp2
        · go_ret; exact ⟨⟨_, rfl⟩, rfl⟩
        · go_ret; exact ⟨⟨_, rfl⟩, rfl⟩
        · skip
          go_loop [5, 7] (fun n i => ∃ k : Nat, k ≤ l1 ∧ i = .int .i64 k ∧ ∃ t : Int, n = .int .i64 t) (fun _ i => l1 - (intOf i).toNat)
          case atStart => exact ⟨0, by omega, rfl, _, rfl⟩
          case round =>
            obtain ⟨k, hk, rfl, t, rfl⟩ := hrel
            by_cases hlt : k < l1
            · obtain ⟨b, off, had, hb, hc⟩ := h1.2 (by omega)
              subst had
              have hck := hc k hlt
              generalize s1.getD k ByteArray.empty = x at hck
              clear hc
              go_wp2
              · go_ret; exact ⟨⟨_, rfl⟩, rfl⟩
              · go_ret; exact ⟨⟨_, rfl⟩, rfl⟩
              · go_round
                case rel => exact ⟨k + 1, by omega, by go_num, _, rfl⟩
                case measure => simp [intOf]; omega
            · go_wp2
              all_goals (go_ret; exact ⟨⟨_, rfl⟩, rfl⟩)
  · go_enter Try.func14, Try.ntmps14
    go_wp2
    go_ret
    exact ⟨⟨_, rfl⟩, rfl⟩

end Go.Proofs.Qxb6602716a
