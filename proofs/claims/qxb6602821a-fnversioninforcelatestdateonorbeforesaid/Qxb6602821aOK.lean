import Derived.Test.Qxb6602821aIn
namespace Go.Proofs.Qxb6602821a
open Go.RowKit

/-- Of the first k configs none has more than 65536 tiers. -/
def SmallTo (cs : Nat → Cfg) (k : Nat) : Prop := ∀ i, i < k → (cs i).tl ≤ 65536
theorem SmallTo.up {cs : Nat → Cfg} {k : Nat} (h : SmallTo cs k) (hk : (cs k).tl ≤ 65536) : SmallTo cs (k + 1) := fun i hi => by
  by_cases e : i = k
  · rw [e]; exact hk
  · exact h i (by omega)

/-- It returned a bool; and if that is true, the configs and their tiers are few. -/
def SmallAll (cs : Nat → Cfg) (len : Nat) (e : Ending) : Prop := ∃ r, e = .returned (.bool r) ∧ (r = true → len ≤ 65536 ∧ SmallTo cs len)
theorem SmallAll.no (cs : Nat → Cfg) (len : Nat) : SmallAll cs len (.returned (.bool false)) := ⟨false, rfl, fun h => by cases h⟩
theorem SmallAll.yes {cs : Nat → Cfg} {len : Nat} (h : len ≤ 65536) (h' : SmallTo cs len) : SmallAll cs len (.returned (.bool true)) := ⟨true, rfl, fun _ => ⟨h, h'⟩⟩

set_option maxRecDepth 100000 in
set_option maxHeartbeats 1600000 in
theorem cfgOK_any (ao : Option Addr) (len cap : Nat) (cs : Nat → Cfg) (lab : Nat → Nat → ByteArray) (mn : Nat → Nat → Int) (s : ByteArray) (w : World) (hI : In w ao len cs lab mn) (hm : len ≤ maxLen) :
    Calls Try.prog 6 #[.slice ao len cap, .string s] w fun e w' => SmallAll cs len e ∧ w' = w := by
  unfold maxLen at hm
  by_cases hl : len ≤ 65536
  · have d0 : decide (65536 < (len : Int)) = false := by simp; omega
    by_cases k1 : s.size ≤ 1048576
    · have d1 : decide (1048576 < (s.size : Int)) = false := by simp; omega
      by_cases k3 : s.size + 48 * len ≤ 1048576
      · have d3 : decide (1048576 < (s.size : Int) + 48 * (len : Int)) = false := by simp; omega
        go_enter Try.func6, Try.ntmps6
        go_wp2
        go_loop [5, 6] (fun n i => ∃ k : Nat, k ≤ len ∧ i = .int .i64 k ∧ SmallTo cs k ∧ ∃ t : Int, n = .int .i64 t) (fun _ i => len - (intOf i).toNat)
        case atStart => exact ⟨0, by omega, rfl, fun i hi => by omega, _, rfl⟩
        case round =>
          obtain ⟨k, hk, rfl, hsmall, t, rfl⟩ := hrel
          by_cases hlt : k < len
          · obtain ⟨b, off, had, hb, hc⟩ := hI.1 (by omega)
            subst had
            obtain ⟨q0, q1, q2, q3, q4⟩ := hc k hlt
            obtain ⟨hT, _, htm⟩ := hI.2 k hlt
            unfold maxLen at htm
            obtain ⟨c, hcm⟩ : ∃ c, c = cs k := ⟨_, rfl⟩
            rw [← hcm] at q0 q1 q2 q3 q4 hT htm
            have HC : Hid (c = cs k) := hcm
            clear hc hcm
            obtain ⟨cv, cp, cn, tp, tl, tc, cd⟩ := c
            simp only at q0 q1 q2 q3 q4 hT htm
            by_cases htl : tl ≤ 65536
            · cases cp with
              | none =>
                clear q4
                go_wp2
                · go_ret; exact ⟨SmallAll.no _ _, rfl⟩
                · skip
                  go_loop [5, 7] (fun n i => ∃ j : Nat, j ≤ tl ∧ i = .int .i64 j ∧ ∃ t : Int, n = .int .i64 t) (fun _ i => tl - (intOf i).toNat)
                  case atStart => exact ⟨0, by omega, rfl, _, rfl⟩
                  case round =>
                    obtain ⟨j, hj, rfl, t2, rfl⟩ := hrel
                    by_cases hjl : j < tl
                    · obtain ⟨tb, toff, htd, htb, htc⟩ := hT (by omega)
                      subst htd
                      have hlj := (htc j hjl).1
                      generalize lab k j = y at hlj
                      clear htc
                      go_wp2
                      · go_ret; exact ⟨SmallAll.no _ _, rfl⟩
                      · go_ret; exact ⟨SmallAll.no _ _, rfl⟩
                      · go_round
                        case rel => exact ⟨j + 1, by omega, by go_num, _, rfl⟩
                        case measure => simp [intOf]; omega
                    · go_wp2
                      go_round
                      case rel => exact ⟨k + 1, by omega, by go_num, hsmall.up (by rw [← HC.out]; exact htl), _, rfl⟩
                      case measure => simp [intOf]; omega
              | some ad =>
                obtain ⟨b', off', rfl, hb', hd⟩ := q4 ad rfl
                clear q4
                go_wp2
                · go_ret; exact ⟨SmallAll.no _ _, rfl⟩
                · go_ret; exact ⟨SmallAll.no _ _, rfl⟩
                · go_ret; exact ⟨SmallAll.no _ _, rfl⟩
                · skip
                  go_loop [5, 7] (fun n i => ∃ j : Nat, j ≤ tl ∧ i = .int .i64 j ∧ ∃ t : Int, n = .int .i64 t) (fun _ i => tl - (intOf i).toNat)
                  case atStart => exact ⟨0, by omega, rfl, _, rfl⟩
                  case round =>
                    obtain ⟨j, hj, rfl, t2, rfl⟩ := hrel
                    by_cases hjl : j < tl
                    · obtain ⟨tb, toff, htd, htb, htc⟩ := hT (by omega)
                      subst htd
                      have hlj := (htc j hjl).1
                      generalize lab k j = y at hlj
                      clear htc
                      go_wp2
                      · go_ret; exact ⟨SmallAll.no _ _, rfl⟩
                      · go_ret; exact ⟨SmallAll.no _ _, rfl⟩
                      · go_round
                        case rel => exact ⟨j + 1, by omega, by go_num, _, rfl⟩
                        case measure => simp [intOf]; omega
                    · go_wp2
                      go_round
                      case rel => exact ⟨k + 1, by omega, by go_num, hsmall.up (by rw [← HC.out]; exact htl), _, rfl⟩
                      case measure => simp [intOf]; omega
            · cases cp with
              | none =>
                clear q4
                go_wp2
                all_goals (go_ret; exact ⟨SmallAll.no _ _, rfl⟩)
              | some ad =>
                obtain ⟨b', off', rfl, hb', hd⟩ := q4 ad rfl
                clear q4
                go_wp2
                all_goals (go_ret; exact ⟨SmallAll.no _ _, rfl⟩)
          · have hkl : k = len := by omega
            subst hkl
            go_wp2
            go_ret; exact ⟨SmallAll.yes hl hsmall, rfl⟩
      · go_enter Try.func6, Try.ntmps6
        go_wp2
        go_ret; exact ⟨SmallAll.no _ _, rfl⟩
    · have d1 : decide (1048576 < (s.size : Int)) = true := by simp; omega
      go_enter Try.func6, Try.ntmps6
      go_wp2
      go_ret; exact ⟨SmallAll.no _ _, rfl⟩
  · have d0 : decide (65536 < (len : Int)) = true := by simp; omega
    go_enter Try.func6, Try.ntmps6
    go_wp2
    go_ret; exact ⟨SmallAll.no _ _, rfl⟩

end Go.Proofs.Qxb6602821a
