import Derived.Test.Qxb6602821aBase
namespace Go.Proofs.Qxb6602821a
open Go.RowKit

/-- What a walk is told of a slice of ZZFrom: element i holds the bool st i and the string dt i. -/
def Froms (w : World) (ao : Option Addr) (len : Nat) (st : Nat → Bool) (dt : Nat → ByteArray) : Prop :=
  0 < len → ∃ b off, ao = some ⟨b, off, none⟩ ∧ b < w.heap.size ∧ ∀ i, i < len → w.cell? ⟨b, off + i * 2, none⟩ = some (.bool (st i)) ∧ w.cell? ⟨b, off + i * 2 + 1, none⟩ = some (.string (dt i))

/-- It returned a bool. -/
def SomeBool (e : Ending) : Prop := ∃ r, e = .returned (.bool r)

set_option maxRecDepth 100000 in
set_option maxHeartbeats 800000 in
theorem zzBytesF_any (ao : Option Addr) (len cap : Nat) (st : Nat → Bool) (dt : Nat → ByteArray) (s1 s2 : ByteArray) (w : World) (hF : Froms w ao len st dt) (hm : len ≤ maxLen) :
    Calls Try.prog 11 #[.slice ao len cap, .string s1, .string s2] w fun e w' => SomeBool e ∧ w' = w := by
  unfold maxLen at hm
  by_cases hl : len ≤ 1048576
  · go_enter Try.func11, Try.ntmps11
    go_wp2
    go_loop [7, 8] (fun n i => ∃ k : Nat, k ≤ len ∧ i = .int .i64 k ∧ ∃ t : Int, n = .int .i64 t) (fun _ i => len - (intOf i).toNat)
    case atStart => exact ⟨0, by omega, rfl, _, rfl⟩
    case round =>
      obtain ⟨k, hk, rfl, t, rfl⟩ := hrel
      by_cases hlt : k < len
      · obtain ⟨b, off, had, hb, hc⟩ := hF (by omega)
        subst had
        have hck := (hc k hlt).2
        generalize dt k = x at hck
        clear hc
        go_wp2
        · go_ret; exact ⟨⟨_, rfl⟩, rfl⟩
        · go_ret; exact ⟨⟨_, rfl⟩, rfl⟩
        · go_round
          case rel => exact ⟨k + 1, by omega, by go_num, _, rfl⟩
          case measure => simp [intOf]; omega
      · go_wp2
        all_goals (go_ret; exact ⟨⟨_, rfl⟩, rfl⟩)
  · go_enter Try.func11, Try.ntmps11
    go_wp2
    go_ret
    exact ⟨⟨_, rfl⟩, rfl⟩

/-- It returned a bool; and if that is true, there are at most 65536. -/
def SmallIf (len : Nat) (e : Ending) : Prop := ∃ r, e = .returned (.bool r) ∧ (r = true → len ≤ 65536)
theorem SmallIf.no (len : Nat) : SmallIf len (.returned (.bool false)) := ⟨false, rfl, fun h => by cases h⟩
theorem SmallIf.yes {len : Nat} (h : len ≤ 65536) : SmallIf len (.returned (.bool true)) := ⟨true, rfl, fun _ => h⟩

set_option maxRecDepth 100000 in
set_option maxHeartbeats 800000 in
theorem fromOK_any (ao : Option Addr) (len cap : Nat) (st : Nat → Bool) (dt : Nat → ByteArray) (s1 s2 : ByteArray) (w : World) (hF : Froms w ao len st dt) (hm : len ≤ maxLen) (h1 : s1.size ≤ maxLen) (h2 : s2.size ≤ maxLen) :
    Calls Try.prog 12 #[.slice ao len cap, .string s1, .string s2] w fun e w' => SmallIf len e ∧ w' = w := by
  unfold maxLen at hm h1 h2
  by_cases hl : len ≤ 65536
  · have d0 : decide (65536 < (len : Int)) = false := by simp; omega
    by_cases k1 : s1.size ≤ 1048576
    · have d1 : decide (1048576 < (s1.size : Int)) = false := by simp; omega
      by_cases k2 : s2.size ≤ 1048576
      · have d2 : decide (1048576 < (s2.size : Int)) = false := by simp; omega
        by_cases k3 : s1.size + s2.size + 24 * len ≤ 1048576
        · have d3 : decide (1048576 < (s1.size : Int) + (s2.size : Int) + 24 * (len : Int)) = false := by simp; omega
          go_enter Try.func12, Try.ntmps12
          go_wp2
          go_loop [7, 8] (fun n i => ∃ k : Nat, k ≤ len ∧ i = .int .i64 k ∧ ∃ t : Int, n = .int .i64 t) (fun _ i => len - (intOf i).toNat)
          case atStart => exact ⟨0, by omega, rfl, _, rfl⟩
          case round =>
            obtain ⟨k, hk, rfl, t, rfl⟩ := hrel
            by_cases hlt : k < len
            · obtain ⟨b, off, had, hb, hc⟩ := hF (by omega)
              subst had
              have hck := (hc k hlt).2
              generalize dt k = x at hck
              clear hc
              go_wp2
              · go_ret; exact ⟨SmallIf.no _, rfl⟩
              · go_ret; exact ⟨SmallIf.no _, rfl⟩
              · go_round
                case rel => exact ⟨k + 1, by omega, by go_num, _, rfl⟩
                case measure => simp [intOf]; omega
            · go_wp2
              go_ret; exact ⟨SmallIf.yes hl, rfl⟩
        · go_enter Try.func12, Try.ntmps12
          go_wp2
          go_ret; exact ⟨SmallIf.no _, rfl⟩
      · have d2 : decide (1048576 < (s2.size : Int)) = true := by simp; omega
        go_enter Try.func12, Try.ntmps12
        go_wp2
        go_ret; exact ⟨SmallIf.no _, rfl⟩
    · have d1 : decide (1048576 < (s1.size : Int)) = true := by simp; omega
      go_enter Try.func12, Try.ntmps12
      go_wp2
      go_ret; exact ⟨SmallIf.no _, rfl⟩
  · have d0 : decide (65536 < (len : Int)) = true := by simp; omega
    go_enter Try.func12, Try.ntmps12
    go_wp2
    go_ret; exact ⟨SmallIf.no _, rfl⟩

set_option maxRecDepth 100000 in
set_option maxHeartbeats 800000 in
theorem picked_any (v n : Int) (p tp : Option Addr) (tl tc : Nat) (x d : ByteArray) (w : World) (hp : ∀ ad, p = some ad → ∃ b' off', ad = ⟨b', off', none⟩ ∧ b' < w.heap.size ∧ w.cell? ⟨b', off', none⟩ = some (.string x)) (hh : v = 1 ∨ (p.isSome = true ∧ leS x d = true)) :
    Calls Try.prog 13 #[.agg #[.int .i64 v, .pointer p, .int .i64 n, .slice tp tl tc], .string d] w fun e w' => e = .returned (.bool true) ∧ Below w.heap.size w w' := by
  by_cases hv : v = 1
  · subst hv
    clear hh hp
    go_enter Try.func13, Try.ntmps13
    go_wp2
    go_ret
    exact ⟨rfl, (Below.refl _ _).alloc (Nat.le_refl _) _⟩
  · have hv' : (v == 1) = false := by simp; exact hv
    rcases hh with hh | ⟨hs, hle⟩
    · exact absurd hh hv
    · cases p with
      | none => cases hs
      | some ad =>
        obtain ⟨b', off', rfl, hb', hcd⟩ := hp ad rfl
        have hle' : (Op.bytesLess x.toList d.toList || x.toList == d.toList) = true := hle
        clear hp hs hle hv
        go_enter Try.func13, Try.ntmps13
        go_wp2
        go_ret
        exact ⟨by simp, (Below.refl _ _).alloc (Nat.le_refl _) _⟩

end Go.Proofs.Qxb6602821a
