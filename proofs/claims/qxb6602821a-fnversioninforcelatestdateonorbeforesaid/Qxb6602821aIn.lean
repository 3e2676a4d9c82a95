import Derived.Test.Qxb6602821aLc
namespace Go.Proofs.Qxb6602821a
open Go.RowKit

/-- What a walk is told of a slice of ZZTier. -/
def Tiers2 (w : World) (tp : Option Addr) (tl : Nat) (lab : Nat → ByteArray) (mn : Nat → Int) : Prop :=
  0 < tl → ∃ b off, tp = some ⟨b, off, none⟩ ∧ b < w.heap.size ∧ ∀ j, j < tl → w.cell? ⟨b, off + j * 2, none⟩ = some (.string (lab j)) ∧ w.cell? ⟨b, off + j * 2 + 1, none⟩ = some (.int .i64 (mn j))

/-- What a walk is told of a slice of ZZCfg. -/
def In (w : World) (ao : Option Addr) (len : Nat) (cs : Nat → Cfg) (lab : Nat → Nat → ByteArray) (mn : Nat → Nat → Int) : Prop :=
  Cfgs w ao len cs ∧ ∀ i, i < len → Tiers2 w (cs i).tp (cs i).tl (lab i) (mn i) ∧ ((cs i).tp = none → (cs i).tl = 0 ∧ (cs i).tc = 0) ∧ (cs i).tl ≤ maxLen

theorem Tiers2.below {w w1 : World} {tp : Option Addr} {tl : Nat} {lab : Nat → ByteArray} {mn : Nat → Int} (h : Tiers2 w tp tl lab mn) (hb : Below w.heap.size w w1) : Tiers2 w1 tp tl lab mn := by
  intro h0
  obtain ⟨b, off, h1, h2, h3⟩ := h h0
  exact ⟨b, off, h1, Nat.lt_of_lt_of_le h2 hb.size, fun i hi => ⟨(hb.cell (by exact h2)).trans (h3 i hi).1, (hb.cell (by exact h2)).trans (h3 i hi).2⟩⟩

theorem In.below {w w1 : World} {ao : Option Addr} {len : Nat} {cs : Nat → Cfg} {lab : Nat → Nat → ByteArray} {mn : Nat → Nat → Int} (h : In w ao len cs lab mn) (hb : Below w.heap.size w w1) : In w1 ao len cs lab mn :=
  ⟨h.1.below hb, fun i hi => ⟨(h.2 i hi).1.below hb, (h.2 i hi).2⟩⟩

/-- It returned a bool. -/
def SomeBool2 (e : Ending) : Prop := ∃ r, e = .returned (.bool r)

set_option maxRecDepth 100000 in
set_option maxHeartbeats 1600000 in
theorem zzBytesC_any (ao : Option Addr) (len cap : Nat) (cs : Nat → Cfg) (lab : Nat → Nat → ByteArray) (mn : Nat → Nat → Int) (s : ByteArray) (w : World) (hI : In w ao len cs lab mn) (hm : len ≤ maxLen) :
    Calls Try.prog 5 #[.slice ao len cap, .string s] w fun e w' => SomeBool2 e ∧ w' = w := by
  unfold maxLen at hm
  by_cases hl : len ≤ 1048576
  · go_enter Try.func5, Try.ntmps5
    go_wp2
    go_loop [5, 6] (fun n i => ∃ k : Nat, k ≤ len ∧ i = .int .i64 k ∧ ∃ t : Int, n = .int .i64 t) (fun _ i => len - (intOf i).toNat)
    case atStart => exact ⟨0, by omega, rfl, _, rfl⟩
    case round =>
      obtain ⟨k, hk, rfl, t, rfl⟩ := hrel
      by_cases hlt : k < len
      · obtain ⟨b, off, had, hb, hc⟩ := hI.1 (by omega)
        subst had
        obtain ⟨q0, q1, q2, q3, q4⟩ := hc k hlt
        obtain ⟨hT, _, htm⟩ := hI.2 k hlt
        unfold maxLen at htm
        generalize cs k = c at q0 q1 q2 q3 q4 hT htm
        clear hc
        obtain ⟨cv, cp, cn, tp, tl, tc, cd⟩ := c
        simp only at q0 q1 q2 q3 q4 hT htm
        cases cp with
        | none =>
          clear q4
          go_wp2
          · go_ret; exact ⟨⟨_, rfl⟩, rfl⟩
          · go_ret; exact ⟨⟨_, rfl⟩, rfl⟩
          · skip
            go_loop [5, 7] (fun n i => ∃ j : Nat, j ≤ tl ∧ i = .int .i64 j ∧ ∃ t : Int, n = .int .i64 t) (fun _ i => tl - (intOf i).toNat)
            case atStart => exact ⟨0, by omega, rfl, _, rfl⟩
            case round =>
              obtain ⟨j, hj, rfl, t2, rfl⟩ := hrel
              by_cases hjl : j < tl
              · obtain ⟨tb, toff, htd, htb, htc⟩ := hT (by omega)
                subst htd
                have hlj := (htc j hjl).1
                generalize lab k j = y at hlj
                clear htc
                go_wp2
                · go_ret; exact ⟨⟨_, rfl⟩, rfl⟩
                · go_ret; exact ⟨⟨_, rfl⟩, rfl⟩
                · go_round
                  case rel => exact ⟨j + 1, by omega, by go_num, _, rfl⟩
                  case measure => simp [intOf]; omega
              · go_wp2
                go_round
                case rel => exact ⟨k + 1, by omega, by go_num, _, rfl⟩
                case measure => simp [intOf]; omega
        | some ad =>
          obtain ⟨b', off', rfl, hb', hd⟩ := q4 ad rfl
          clear q4
          go_wp2
          · go_ret; exact ⟨⟨_, rfl⟩, rfl⟩
          · go_ret; exact ⟨⟨_, rfl⟩, rfl⟩
          · go_ret; exact ⟨⟨_, rfl⟩, rfl⟩
          · go_ret; exact ⟨⟨_, rfl⟩, rfl⟩
          · skip
            go_loop [5, 7] (fun n i => ∃ j : Nat, j ≤ tl ∧ i = .int .i64 j ∧ ∃ t : Int, n = .int .i64 t) (fun _ i => tl - (intOf i).toNat)
            case atStart => exact ⟨0, by omega, rfl, _, rfl⟩
            case round =>
              obtain ⟨j, hj, rfl, t2, rfl⟩ := hrel
              by_cases hjl : j < tl
              · obtain ⟨tb, toff, htd, htb, htc⟩ := hT (by omega)
                subst htd
                have hlj := (htc j hjl).1
                generalize lab k j = y at hlj
                clear htc
                go_wp2
                · go_ret; exact ⟨⟨_, rfl⟩, rfl⟩
                · go_ret; exact ⟨⟨_, rfl⟩, rfl⟩
                · go_round
                  case rel => exact ⟨j + 1, by omega, by go_num, _, rfl⟩
                  case measure => simp [intOf]; omega
              · go_wp2
                go_round
                case rel => exact ⟨k + 1, by omega, by go_num, _, rfl⟩
                case measure => simp [intOf]; omega
      · go_wp2
        all_goals (go_ret; exact ⟨⟨_, rfl⟩, rfl⟩)
  · go_enter Try.func5, Try.ntmps5
    go_wp2
    go_ret
    exact ⟨⟨_, rfl⟩, rfl⟩

end Go.Proofs.Qxb6602821a
