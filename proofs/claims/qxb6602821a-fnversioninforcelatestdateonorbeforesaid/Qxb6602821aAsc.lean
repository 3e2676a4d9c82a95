import Derived.Test.Qxb6602821aIn
namespace Go.Proofs.Qxb6602821a
open Go.RowKit

/-- The dates that are set on the configs from the second on, up to place n, are in ascending order. -/
def Asc (cs : Nat → Cfg) (n : Nat) : Prop := ∀ i j, 1 ≤ i → i < j → j < n → (cs i).ptr.isSome = true → (cs j).ptr.isSome = true → leS (cs i).date (cs j).date = true

/-- .. and p is no earlier than any of them, if one was seen. -/
def PrevOK (cs : Nat → Cfg) (k : Nat) (seen : Bool) (p : ByteArray) : Prop := Asc cs k ∧ ∀ i, 1 ≤ i → i < k → (cs i).ptr.isSome = true → seen = true ∧ leS (cs i).date p = true

theorem PrevOK.start (cs : Nat → Cfg) (p : ByteArray) : PrevOK cs 1 false p := ⟨fun i j h1 h2 h3 => by omega, fun i h1 h2 => by omega⟩

theorem PrevOK.skip {cs : Nat → Cfg} {k : Nat} {seen : Bool} {p : ByteArray} (h : PrevOK cs k seen p) (hk : (cs k).ptr = none) : PrevOK cs (k + 1) seen p := by
  refine ⟨fun i j h1 h2 h3 hi hj => ?_, fun i h1 h2 hi => ?_⟩
  · by_cases e : j = k
    · subst e; rw [hk] at hj; cases hj
    · exact h.1 i j h1 h2 (by omega) hi hj
  · by_cases e : i = k
    · subst e; rw [hk] at hi; cases hi
    · exact h.2 i h1 (by omega) hi

theorem PrevOK.take {cs : Nat → Cfg} {k : Nat} {seen : Bool} {p : ByteArray} (h : PrevOK cs k seen p) (ht : seen = true → Op.bytesLess (cs k).date.toList p.toList = false) : PrevOK cs (k + 1) true (cs k).date := by
  have key : ∀ i, 1 ≤ i → i < k → (cs i).ptr.isSome = true → leS (cs i).date (cs k).date = true := fun i h1 h2 hi => by
    obtain ⟨hs, hl⟩ := h.2 i h1 h2 hi
    exact leS_trans hl (leS_of_not (ht hs))
  refine ⟨fun i j h1 h2 h3 hi hj => ?_, fun i h1 h2 hi => ⟨rfl, ?_⟩⟩
  · by_cases e : j = k
    · subst e; exact key i h1 h2 hi
    · exact h.1 i j h1 h2 (by omega) hi hj
  · by_cases e : i = k
    · subst e; exact leS_refl _
    · exact key i h1 (by omega) hi

/-- It returned a bool; and if that is true, the dates ascend. -/
def AscIf (cs : Nat → Cfg) (len : Nat) (e : Ending) : Prop := ∃ r, e = .returned (.bool r) ∧ (r = true → Asc cs len)
theorem AscIf.no (cs : Nat → Cfg) (len : Nat) : AscIf cs len (.returned (.bool false)) := ⟨false, rfl, fun h => by cases h⟩
theorem AscIf.yes {cs : Nat → Cfg} {len : Nat} (h : Asc cs len) : AscIf cs len (.returned (.bool true)) := ⟨true, rfl, fun _ => h⟩

set_option maxRecDepth 100000 in
set_option maxHeartbeats 1600000 in
theorem asc_any (ao : Option Addr) (len cap : Nat) (cs : Nat → Cfg) (w : World) (hC : Cfgs w ao len cs) (hm : len ≤ 65536) :
    Calls Try.prog 7 #[.slice ao len cap] w fun e w' => AscIf cs len e ∧ w' = w := by
  go_enter Try.func7, Try.ntmps7
  go_wp2
  go_loop [3, 4, 5] (fun p s i => ∃ (k : Nat) (seen : Bool) (prev : ByteArray), 1 ≤ k ∧ (k ≤ len ∨ k = 1) ∧ i = .int .i64 k ∧ s = .bool seen ∧ p = .string prev ∧ PrevOK cs k seen prev) (fun _ _ i => len - (intOf i).toNat)
  case atStart => exact ⟨1, false, _, by omega, .inr rfl, rfl, rfl, rfl, PrevOK.start cs _⟩
  case round =>
    obtain ⟨k, seen, prev, hk1, hk2, rfl, rfl, rfl, hP⟩ := hrel
    by_cases hlt : k < len
    · obtain ⟨b, off, had, hb, hc⟩ := hC (by omega)
      subst had
      obtain ⟨q0, q1, q2, q3, q4⟩ := hc k hlt
      obtain ⟨c, hcm⟩ : ∃ c, c = cs k := ⟨_, rfl⟩
      rw [← hcm] at q0 q1 q2 q3 q4
      have HC : Hid (c = cs k) := hcm
      clear hc hcm
      obtain ⟨cv, cp, cn, tp, tl, tc, cd⟩ := c
      simp only at q0 q1 q2 q3 q4
      cases cp with
      | none =>
        have hP' := hP.skip (by rw [← HC.out])
        clear q4 hP
        go_wp2
        go_round
        case rel => exact ⟨k + 1, seen, prev, by omega, by omega, by go_num, rfl, rfl, hP'⟩
        case measure => simp [intOf]; omega
      | some ad =>
        obtain ⟨b', off', rfl, hb', hd⟩ := q4 ad rfl
        clear q4
        cases seen with
        | false =>
          have hP' := hP.take (fun h => by cases h)
          rw [← HC.out] at hP'
          clear hP
          go_wp2
          go_round
          case rel => exact ⟨k + 1, true, cd, by omega, by omega, by go_num, rfl, rfl, hP'⟩
          case measure => simp [intOf]; omega
        | true =>
          cases hless : Op.bytesLess cd.toList prev.toList with
          | true =>
            clear hP
            go_wp2
            go_ret; exact ⟨AscIf.no _ _, rfl⟩
          | false =>
            have hP' := hP.take (fun _ => by rw [← HC.out]; exact hless)
            rw [← HC.out] at hP'
            clear hP
            go_wp2
            go_round
            case rel => exact ⟨k + 1, true, cd, by omega, by omega, by go_num, rfl, rfl, hP'⟩
            case measure => simp [intOf]; omega
    · have hA : Asc cs len := fun i j h1 h2 h3 => hP.1 i j h1 h2 (by omega)
      go_wp2
      go_ret; exact ⟨AscIf.yes hA, rfl⟩

end Go.Proofs.Qxb6602821a
