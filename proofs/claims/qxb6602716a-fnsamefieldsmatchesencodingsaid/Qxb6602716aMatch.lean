import Derived.Test.Qxb6602716aBytes2
import Derived.Test.Qxb6602716aEncode
namespace Go.Proofs.Qxb6602716a
open Go.RowKit

set_option maxRecDepth 100000 in
set_option maxHeartbeats 1600000 in
theorem match_any (a0 a1 : Option Addr) (l0 l1 c0 c1 : Nat) (s0 s1 : List ByteArray) (w : World) (h0 : Strs w a0 l0 s0) (h1 : Strs w a1 l1 s1) (m0 : l0 ≤ maxLen) (m1 : l1 ≤ maxLen)
    (e0 : a0 = none → l0 = 0 ∧ c0 = 0) (e1 : a1 = none → l1 = 0 ∧ c1 = 0) :
    Calls Try.prog 5 #[.slice a0 l0 c0, .slice a1 l1 c1] w fun e w' => e = .returned (.bool true) ∧ Below w.heap.size w w' := by
  go_enter Try.func5, Try.ntmps5
  go_wp2_with fail
  refine (zzBytes2_any a0 a1 l0 l1 c0 c1 s0 s1 _ h0 h1 m0 m1).mono ?_
  rintro e w' ⟨⟨r, rfl⟩, hw⟩
  obtain rfl := hw.symm
  clear hw
  cases r with
  | false =>
    go_wp2_with fail
    go_ret
    exact ⟨rfl, Below.refl _ _⟩
  | true =>
    by_cases k0 : l0 ≤ 65536
    · have d0 : decide (65536 < (l0 : Int)) = false := by simp; omega
      by_cases k1 : l1 ≤ 65536
      · have d1 : decide (65536 < (l1 : Int)) = false := by simp; omega
        go_wp2_with fail
        refine (fieldBytes_any a0 l0 c0 s0 _ h0 k0).mono ?_
        rintro e w' ⟨⟨t0, rfl, p0, q0, g0⟩, hw⟩
        obtain rfl := hw.symm
        clear hw
        have G0 : Hid (t0 ≤ 1048576 → 16 * l0 + tot s0 ≤ 1048576) := g0
        clear g0
        go_wp2_with fail
        refine (fieldBytes_any a1 l1 c1 s1 _ h1 k1).mono ?_
        rintro e w' ⟨⟨t1, rfl, p1, q1, g1⟩, hw⟩
        obtain rfl := hw.symm
        clear hw
        have G1 : Hid (t1 ≤ 1048576 → 16 * l1 + tot s1 ≤ 1048576) := g1
        clear g1
        by_cases hsum : t0 + t1 ≤ 1048576
        · have d3 : decide (1048576 < t0 + t1) = false := by simp; omega
          have b0 : tot s0 ≤ 1048576 := by have := G0.out (by omega); omega
          have b1 : tot s1 ≤ 1048576 := by have := G1.out (by omega); omega
          have hle : (encAll s0).length ≤ 1000000000 := by
            have h2 := encAll_length s0
            have h3 := h0.1
            omega
          clear G0 G1
          go_wp2_with fail
          refine (clone_any a0 l0 c0 s0 _ h0 k0 e0).mono ?_
          rintro e w1 ⟨A0, C0, rfl, S0, y1⟩
          go_wp2_with fail
          refine (clone_any a1 l1 c1 s1 _ (h1.below y1) k1 e1).mono ?_
          rintro e w2 ⟨A1, C1, rfl, S1, y2⟩
          have z2 := y1.trans (y2.mono y1.size)
          replace S0 := S0.below y2
          clear h0 h1 e0 e1 y1 y2
          go_wp2_with fail
          refine (ZZSame_any A0 A1 l0 l1 C0 C1 s0 s1 _ S0 S1 m0).mono ?_
          rintro e w3 ⟨⟨r3, rfl, hr3⟩, y3⟩
          have z3 := z2.trans (y3.mono z2.size)
          replace S0 := S0.below y3
          replace S1 := S1.below y3
          have HR3 : Hid (r3 = true ↔ s0 = s1) := hr3
          clear y3 z2 hr3
          go_wp2_with fail
          refine (encode_any A0 l0 C0 s0 _ S0 k0 b0).mono ?_
          rintro e w4 ⟨v4, rfl, hO4, y4⟩
          obtain ⟨O4, Q4, hv4, R4⟩ := hO4.row
          rw [hv4]
          have z4 := z3.trans (y4.mono z3.size)
          replace S1 := S1.below y4
          clear y4 z3 S0 hv4 hO4
          go_wp2_with fail
          refine (encode_any A1 l1 C1 s1 _ S1 k1 b1).mono ?_
          rintro e w5 ⟨v5, rfl, hO5, y5⟩
          obtain ⟨O5, Q5, hv5, R5⟩ := hO5.row
          rw [hv5]
          have z5 := z4.trans (y5.mono z4.size)
          replace R4 := R4.below y5
          clear y5 z4 S1 hv5 hO5
          go_wp2_with fail
          refine (sameBytes_any O4 O5 (encAll s0).length (encAll s1).length Q4 Q5 (encAll s0) (encAll s1) _ R4 R5 hle).mono ?_
          rintro e w6 ⟨⟨r6, rfl, hr6⟩, y6⟩
          have z6 := z5.trans (y6.mono z5.size)
          obtain rfl : r3 = r6 := by rw [Bool.eq_iff_iff, HR3.out, hr6, encAll_iff b0 b1]
          clear y6 z5 hr6 HR3
          go_wp2_with fail
          go_ret
          exact ⟨by simp, z6⟩
        · have d3 : decide (1048576 < t0 + t1) = true := by simp; omega
          go_wp2_with fail
          go_ret
          exact ⟨rfl, Below.refl _ _⟩
      · have d1 : decide (65536 < (l1 : Int)) = true := by simp; omega
        go_wp2_with fail
        go_ret
        exact ⟨rfl, Below.refl _ _⟩
    · have d0 : decide (65536 < (l0 : Int)) = true := by simp; omega
      go_wp2_with fail
      go_ret
      exact ⟨rfl, Below.refl _ _⟩

end Go.Proofs.Qxb6602716a
