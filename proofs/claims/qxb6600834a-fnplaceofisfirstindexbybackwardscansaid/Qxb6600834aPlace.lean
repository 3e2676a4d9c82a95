import Derived.Test.Qxb6600834aBytes
namespace Go.Proofs.Qxb6600834a
open Go.RowKit

theorem Strs.parted {w : World} {ao : Option Addr} {len : Nat} {ss : List ByteArray} (h : Strs w ao len ss) :
    len = 0 ∨ ∃ b off, ao = some ⟨b, off, none⟩ ∧ b < w.heap.size ∧ ∀ i, i < len → w.cell? ⟨b, off + i, none⟩ = some (.string (ss.getD i ByteArray.empty)) := by
  by_cases h0 : 0 < len
  · exact .inr (h.2 h0)
  · exact .inl (by omega)

/-- Does s stand at place i of ss? -/
def hit (ss : List ByteArray) (s : ByteArray) (i : Nat) : Bool := (ss.getD i ByteArray.empty).toList == s.toList
/-- s stands at no place from lo up to hi. -/
def NoHit (ss : List ByteArray) (s : ByteArray) (lo hi : Nat) : Prop := ∀ j, lo ≤ j → j < hi → hit ss s j = false
/-- r is the first place of s among the first len strings of ss that is not before lo, or -1. -/
def IsPlace (ss : List ByteArray) (s : ByteArray) (lo len : Nat) (r : Int) : Prop :=
  (r = -1 ∧ NoHit ss s lo len) ∨ ∃ k : Nat, r = k ∧ lo ≤ k ∧ k < len ∧ hit ss s k = true ∧ NoHit ss s lo k

theorem NoHit.nil (ss s lo) : NoHit ss s lo lo := fun j h1 h2 => by omega
theorem NoHit.up {ss s lo k} (h : NoHit ss s lo k) (hk : hit ss s k = false) : NoHit ss s lo (k + 1) := fun j h1 h2 => by
  by_cases e : j = k
  · rw [e]; exact hk
  · exact h j h1 (by omega)
theorem NoHit.down {ss s k hi} (h : NoHit ss s (k + 1) hi) (hk : hit ss s k = false) : NoHit ss s k hi := fun j h1 h2 => by
  by_cases e : j = k
  · rw [e]; exact hk
  · exact h j (by omega) h2

theorem IsPlace.unique {ss s lo len r r'} (h : IsPlace ss s lo len r) (h' : IsPlace ss s lo len r') : r = r' := by
  rcases h with ⟨rfl, n⟩ | ⟨k, rfl, l, hk, hh, n⟩ <;> rcases h' with ⟨rfl, n'⟩ | ⟨k', rfl, l', hk', hh', n'⟩
  · rfl
  · have := n k' l' hk'; rw [hh'] at this; cases this
  · have := n' k l hk; rw [hh] at this; cases this
  · by_cases e : k < k'
    · have := n' k l e; rw [hh] at this; cases this
    · by_cases e' : k' < k
      · have := n k' l' e'; rw [hh'] at this; cases this
      · have : k = k' := by omega
        rw [this]

/-- The step down: one place more is looked at, from the end. -/
theorem IsPlace.down {ss s k len r} (h : IsPlace ss s (k + 1) len r) (hk : hit ss s k = false) : IsPlace ss s k len r := by
  rcases h with ⟨rfl, n⟩ | ⟨k', rfl, l, hk', hh, n⟩
  · exact .inl ⟨rfl, n.down hk⟩
  · exact .inr ⟨k', rfl, by omega, hk', hh, n.down hk⟩
theorem IsPlace.here {ss s k len} (hl : k < len) (hk : hit ss s k = true) : IsPlace ss s k len k :=
  .inr ⟨k, rfl, Nat.le_refl _, hl, hk, NoHit.nil _ _ _⟩

/-- It returned the first place of s in ss. -/
def RetPlace (ss : List ByteArray) (s : ByteArray) (len : Nat) (e : Ending) : Prop := ∃ r : Int, e = .returned (.int .i64 r) ∧ IsPlace ss s 0 len r

theorem RetPlace.mk {ss s len} (r : Int) (h : IsPlace ss s 0 len r) : RetPlace ss s len (.returned (.int .i64 r)) := ⟨r, rfl, h⟩

set_option maxHeartbeats 400000 in
theorem placeOf_any (ao : Option Addr) (len cap : Nat) (ss : List ByteArray) (s : ByteArray) (w : World) (hS : Strs w ao len ss) (hm : len ≤ maxLen) :
    Calls Try.prog 18 #[.slice ao len cap, .string s] w fun e w' => RetPlace ss s len e ∧ w' = w := by
  unfold maxLen at hm
  rcases hS.parted with h0 | ⟨b, off, rfl, _, hc⟩
  · subst h0
    clear hS
    go_enter Try.func18, Try.ntmps18
    go_wp2
    go_loop [9] (fun i => i = .int .i64 0) (fun i => 0 - (intOf i).toNat)
    case atStart => exact rfl
    case round =>
      subst hrel
      go_wp2
      go_ret
      exact ⟨RetPlace.mk (-1) (.inl ⟨rfl, NoHit.nil _ _ _⟩), rfl⟩
  · clear hS
    go_enter Try.func18, Try.ntmps18
    go_wp2
    go_loop [9] (fun i => ∃ k : Nat, k ≤ len ∧ i = .int .i64 k ∧ NoHit ss s 0 k) (fun i => len - (intOf i).toNat)
    case atStart => exact ⟨0, by omega, rfl, NoHit.nil _ _ _⟩
    case round =>
      obtain ⟨k, hk, rfl, hno⟩ := hrel
      by_cases hlt : k < len
      · have hck := hc k hlt
        obtain ⟨x, hx⟩ : ∃ x, x = ss.getD k ByteArray.empty := ⟨_, rfl⟩
        rw [← hx] at hck
        have HX : Hid (x = ss.getD k ByteArray.empty) := hx
        clear hc hx
        go_wp2
        · have ht : (x.toList == s.toList) = true := by assumption
          go_ret
          exact ⟨RetPlace.mk (k : Int) (.inr ⟨k, rfl, by omega, hlt, by unfold hit; rw [← HX.out]; exact ht, hno⟩), rfl⟩
        · have ht : (x.toList == s.toList) = false := by assumption
          go_round
          case rel => exact ⟨k + 1, by omega, by go_num, hno.up (by unfold hit; rw [← HX.out]; exact ht)⟩
          case measure => simp [intOf]; omega
      · have hkl : k = len := by omega
        subst hkl
        go_wp2
        go_ret
        exact ⟨RetPlace.mk (-1) (.inl ⟨rfl, hno⟩), rfl⟩

set_option maxHeartbeats 400000 in
theorem ZZPlaceOf_any (ao : Option Addr) (len cap : Nat) (ss : List ByteArray) (s : ByteArray) (w : World) (hS : Strs w ao len ss) (hm : len ≤ maxLen) :
    Calls Try.prog 10 #[.slice ao len cap, .string s] w fun e w' => RetPlace ss s len e ∧ w' = w := by
  go_enter Try.func10, Try.ntmps10
  go_wp2_with (go_at_call 18; refine (placeOf_any ao len cap ss s _ hS hm).mono ?_; rintro e w' ⟨⟨r, rfl, hr⟩, rfl⟩)
  go_ret
  exact ⟨RetPlace.mk _ (by assumption), rfl⟩

end Go.Proofs.Qxb6600834a
