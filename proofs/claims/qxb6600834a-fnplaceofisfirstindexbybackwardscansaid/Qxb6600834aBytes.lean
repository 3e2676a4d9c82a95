import Derived.Test.Qxb6600834aRows
import Derived.WalkKit
import Derived.WalkSpells
import Derived.WalkLawsBesides
namespace Go.Proofs.Qxb6600834a
open Go.RowKit

/-- What a walk is told of a slice of strings: its elements are the strings ss, in the world w. -/
def Strs (w : World) (ao : Option Addr) (len : Nat) (ss : List ByteArray) : Prop :=
  ss.length = len ∧ (0 < len → ∃ b off, ao = some ⟨b, off, none⟩ ∧ b < w.heap.size ∧ ∀ i, i < len → w.cell? ⟨b, off + i, none⟩ = some (.string (ss.getD i ByteArray.empty)))

/-- It returned a bool. -/
def SomeBool (e : Ending) : Prop := ∃ r, e = .returned (.bool r)

set_option maxHeartbeats 400000 in
theorem zzBytes_any (ao : Option Addr) (len cap : Nat) (ss : List ByteArray) (s : ByteArray) (w : World) (hS : Strs w ao len ss) (hm : len ≤ maxLen) (hs : s.size ≤ maxLen) (hsm : ∀ i, (ss.getD i ByteArray.empty).size ≤ maxLen) :
    Calls Try.prog 8 #[.slice ao len cap, .string s] w fun e w' => SomeBool e ∧ w' = w := by
  unfold maxLen at hm hs hsm
  obtain ⟨hlen, hrow⟩ := hS
  have hcase : len = 0 ∨ ∃ b off, ao = some ⟨b, off, none⟩ ∧ ∀ i, i < len → w.cell? ⟨b, off + i, none⟩ = some (.string (ss.getD i ByteArray.empty)) := by
    by_cases h : 0 < len
    · obtain ⟨b, off, h1, _, h2⟩ := hrow h; exact .inr ⟨b, off, h1, h2⟩
    · exact .inl (by omega)
  clear hrow
  rcases hcase with h0 | ⟨b, off, rfl, hc⟩
  · subst h0
    go_enter Try.func8, Try.ntmps8
    go_wp2
    go_loop [5, 6] (fun n i => ∃ k m : Nat, k ≤ 0 ∧ i = .int .i64 k ∧ n = .int .i64 m ∧ m ≤ 1048576) (fun _ i => 0 - (intOf i).toNat)
    case atStart => exact ⟨0, 0, by omega, rfl, rfl, by omega⟩
    case round =>
      obtain ⟨k, m, hk, rfl, rfl, hm⟩ := hrel
      have hk0 : k = 0 := by omega
      subst hk0
      go_wp2
      all_goals (go_ret; exact ⟨⟨_, rfl⟩, rfl⟩)
  · by_cases hl : len ≤ 1048576
    · go_enter Try.func8, Try.ntmps8
      go_wp2
      go_loop [5, 6] (fun n i => ∃ k m : Nat, k ≤ len ∧ i = .int .i64 k ∧ n = .int .i64 m ∧ m ≤ 1048576) (fun _ i => len - (intOf i).toNat)
      case atStart => exact ⟨0, len, by omega, rfl, rfl, by omega⟩
      case round =>
        obtain ⟨k, m, hk, rfl, rfl, hm⟩ := hrel
        by_cases hlt : k < len
        · have hck := hc k hlt
          have hsk := hsm k
          generalize ss.getD k ByteArray.empty = x at hck hsk
          clear hc hsm hlen
          go_wp2
          · go_ret; exact ⟨⟨_, rfl⟩, rfl⟩
          · go_ret; exact ⟨⟨_, rfl⟩, rfl⟩
          · go_round
            case rel => exact ⟨k + 1, m + x.size, by omega, by go_num, by go_num, by omega⟩
            case measure => simp [intOf]; omega
        · go_wp2
          all_goals (go_ret; exact ⟨⟨_, rfl⟩, rfl⟩)
    · go_enter Try.func8, Try.ntmps8
      go_wp2
      go_ret
      exact ⟨⟨_, rfl⟩, rfl⟩

end Go.Proofs.Qxb6600834a
