import Derived.Test.Qxb6602716aBytes3
namespace Go.Proofs.Qxb6602716a
open Go.RowKit

theorem getD_snoc (l : List ByteArray) (j : Nat) : (l ++ [ByteArray.empty]).getD j ByteArray.empty = l.getD j ByteArray.empty := by
  simp only [List.getD_eq_getElem?_getD]
  by_cases hj : j < l.length
  · rw [List.getElem?_append_left hj]
  · have h1 : l[j]? = none := List.getElem?_eq_none (by omega)
    rw [List.getElem?_append_right (by omega), h1]
    cases j - l.length <;> rfl

theorem ne_snoc (l : List ByteArray) (x : ByteArray) : ¬ l = l ++ [x] := fun h => by
  have := congrArg List.length h
  simp at this

set_option maxRecDepth 100000 in
set_option maxHeartbeats 1600000 in
theorem equiv_any (a0 a1 a2 : Option Addr) (l0 l1 l2 c0 c1 c2 : Nat) (s0 s1 s2 : List ByteArray) (w : World) (h0 : Strs w a0 l0 s0) (h1 : Strs w a1 l1 s1) (h2 : Strs w a2 l2 s2) (m0 : l0 ≤ maxLen) (m1 : l1 ≤ maxLen) (m2 : l2 ≤ maxLen)
    (e0 : a0 = none → l0 = 0 ∧ c0 = 0) (e1 : a1 = none → l1 = 0 ∧ c1 = 0) (e2 : a2 = none → l2 = 0 ∧ c2 = 0) :
    Calls Try.prog 6 #[.slice a0 l0 c0, .slice a1 l1 c1, .slice a2 l2 c2] w fun e w' => e = .returned (.bool true) ∧ Below w.heap.size w w' := by
  obtain ⟨i0, hi, hz0, hz1, hz2⟩ := info_parts Try.info9
  go_enter Try.func6, Try.ntmps6
  go_wp2_with fail
  refine (zzBytes3_any a0 a1 a2 l0 l1 l2 c0 c1 c2 s0 s1 s2 _ h0 h1 h2 m0 m1 m2).mono ?_
  rintro e w' ⟨⟨r, rfl⟩, hw⟩
  obtain rfl := hw.symm
  clear hw
  cases r with
  | false =>
    go_wp2_with fail
    go_ret
    exact ⟨rfl, Below.refl _ _⟩
  | true =>
    by_cases k0 : l0 ≤ 65536
    · have d0 : decide (65536 < (l0 : Int)) = false := by simp; omega
      by_cases k1 : l1 ≤ 65536
      · have d1 : decide (65536 < (l1 : Int)) = false := by simp; omega
        by_cases k2 : l2 ≤ 65536
        · have d2 : decide (65536 < (l2 : Int)) = false := by simp; omega
          go_wp2_with fail
          refine (fieldBytes_any a0 l0 c0 s0 _ h0 k0).mono ?_
          rintro e w' ⟨⟨t0, rfl, p0, q0, _⟩, hw⟩
          obtain rfl := hw.symm
          clear hw
          go_wp2_with fail
          refine (fieldBytes_any a1 l1 c1 s1 _ h1 k1).mono ?_
          rintro e w' ⟨⟨t1, rfl, p1, q1, _⟩, hw⟩
          obtain rfl := hw.symm
          clear hw
          go_wp2_with fail
          refine (fieldBytes_any a2 l2 c2 s2 _ h2 k2).mono ?_
          rintro e w' ⟨⟨t2, rfl, p2, q2, _⟩, hw⟩
          obtain rfl := hw.symm
          clear hw
          by_cases hsum : t0 + t1 + t2 ≤ 1048576
          · have d3 : decide (1048576 < t0 + t1 + t2) = false := by simp; omega
            go_wp2_with fail
            refine (clone_any a0 l0 c0 s0 _ h0 k0 e0).mono ?_
            rintro e w1 ⟨A0, C0, rfl, S0, b1⟩
            go_wp2_with fail
            refine (clone_any a1 l1 c1 s1 _ (h1.below b1) k1 e1).mono ?_
            rintro e w2 ⟨A1, C1, rfl, S1, b2⟩
            have b2' := b1.trans (b2.mono b1.size)
            replace S0 := S0.below b2
            go_wp2_with fail
            refine (clone_any a2 l2 c2 s2 _ (h2.below b2') k2 e2).mono ?_
            rintro e w3 ⟨A2, C2, rfl, S2, b3⟩
            have b3' := b2'.trans (b3.mono b2'.size)
            replace S0 := S0.below b3
            replace S1 := S1.below b3
            clear h0 h1 h2 e0 e1 e2 b1 b2 b2' b3
            have hbytes : i0.bytes * l0 ≤ 281474976710656 := by rw [hz2]; omega
            have hbytes' : i0.bytes * (l0 + 1) ≤ 281474976710656 := by rw [hz2]; omega
            have hml : l0 ≤ maxLen := by unfold maxLen; omega
            have hml' : l0 + 1 ≤ maxLen := by unfold maxLen; omega
            go_wp2_with (first
              | (at_make; refine wpList_make_full _ rfl (.tmp 45) (.tmp 45) 29 rfl w3.heap.size 9 i0 (.string ByteArray.empty) 1 Try.underlying29 hi hz0 hz1 _ _ _ _ l0 rfl rfl (by omega) (by omega) hbytes hml (Nat.le_refl _) ?_; intro w4 hown4 hgrow4)
              | (at_make; refine wpList_make_full _ rfl (.tmp 49) (.tmp 49) 29 rfl w4.heap.size 9 i0 (.string ByteArray.empty) 1 Try.underlying29 hi hz0 hz1 _ _ _ _ (l0 + 1) rfl rfl (by omega) (by omega) hbytes' hml' (Nat.le_refl _) ?_; intro w5 hown5 hgrow5))
            have F4 : Filled w3.heap.size w3.heap.size l0 s0 0 w5 := (Filled.made s0 hown4).grown hgrow5
            have F5 : Filled w4.heap.size w4.heap.size (l0 + 1) s0 0 w5 := Filled.made s0 hown5
            have b5 : Below w3.heap.size w3 w5 := ((Below.refl _ _).grown hgrow4 (Nat.le_refl _) (by simp)).grown hgrow5 hgrow4.size (by simp)
            have hgg : w3.heap.size < w4.heap.size := (Filled.made s0 hown4).lt
            clear hown4 hgrow4 hown5 hgrow5 hbytes hbytes' hml hml' hi hz0 hz1 hz2
            go_loopw [9] (fun i wr => ∃ k : Nat, k ≤ l0 ∧ i = .int .i64 k ∧ Filled w3.heap.size w3.heap.size l0 s0 k wr ∧ Filled w4.heap.size w4.heap.size (l0 + 1) s0 k wr ∧ Below w3.heap.size w3 wr) (fun i _ => l0 - (intOf i).toNat)
            case atStart => exact ⟨0, by omega, rfl, F4, F5, b5⟩
            case round =>
              clear F4 F5 b5
              obtain ⟨k, hk, rfl, F4, F5, b5⟩ := hrel
              by_cases hlt : k < l0
              · obtain ⟨b, off, had, hb, hc⟩ := S0.2 (by omega)
                subst had
                have hck : wr.cell? ⟨b, off + k, none⟩ = some (.string (s0.getD k ByteArray.empty)) := (b5.cell (by exact hb)).trans (hc k hlt)
                obtain ⟨v, hv⟩ := F4.cell k hlt
                have hfz := F4.frozen k
                have F4' := F4.step hlt
                have F5' := F5.other (g' := w3.heap.size) (j := k) (by omega) (.string (s0.getD k ByteArray.empty))
                have b6 := b5.setCell (p := ⟨w3.heap.size, k, none⟩) (Nat.le_refl _) (.string (s0.getD k ByteArray.empty))
                have hck' := (b6.cell (by exact hb)).trans (hc k hlt)
                obtain ⟨v', hv'⟩ := F5'.cell k (by omega)
                have hfz' := F5'.frozen k
                have F5'' := F5'.step (by omega)
                have F4'' := F4'.other (g' := w4.heap.size) (j := k) (by omega) (.string (s0.getD k ByteArray.empty))
                have b7 := b6.setCell (p := ⟨w4.heap.size, k, none⟩) (by exact Nat.le_of_lt hgg) (.string (s0.getD k ByteArray.empty))
                generalize s0.getD k ByteArray.empty = x at hck hck' hv' hfz' F4'' F5'' b7
                clear hc F4 F5 F4' F5' b5 b6
                go_wp2_with fail
                go_roundw
                case rel => exact ⟨k + 1, by omega, by go_num, F4'', F5'', b7⟩
                case measure => simp [intOf]; omega
              · have hkl : k = l0 := by omega
                subst hkl
                have hl0 := S0.1
                have T4 : Strs wr (some ⟨w3.heap.size, 0, none⟩) k s0 := Filled.strs (by rw [S0.1]; exact F4) S0.1 (fun _ _ => rfl)
                have T5 : Strs wr (some ⟨w4.heap.size, 0, none⟩) (k + 1) (s0 ++ [ByteArray.empty]) := Filled.strs (by rw [S0.1]; exact F5) (by simp [S0.1]) (fun j _ => getD_snoc s0 j)
                replace S0 := S0.below b5
                replace S1 := S1.below b5
                replace S2 := S2.below b5
                have b5' := b3'.trans (b5.mono b3'.size)
                clear F4 F5 b5 b3' hl0
                have hk1 : k + 1 ≤ maxLen := by unfold maxLen; omega
                go_wp2_with fail
                refine (ZZSame_any A0 A0 k k C0 C0 s0 s0 _ S0 S0 m0).mono ?_
                rintro e x1 ⟨⟨r1, rfl, hr1⟩, y1⟩
                obtain rfl : r1 = true := hr1.2 rfl
                clear hr1
                have z1 := b5'.trans (y1.mono b5'.size)
                replace S0 := S0.below y1
                replace S1 := S1.below y1
                replace S2 := S2.below y1
                replace T4 := T4.below y1
                replace T5 := T5.below y1
                clear y1 b5'
                go_wp2_with fail
                refine (ZZSame_any A0 (some ⟨w3.heap.size, 0, none⟩) k k C0 k s0 s0 _ S0 T4 m0).mono ?_
                rintro e x2 ⟨⟨r2, rfl, hr2⟩, y2⟩
                obtain rfl : r2 = true := hr2.2 rfl
                clear hr2
                have z2 := z1.trans (y2.mono z1.size)
                replace S0 := S0.below y2
                replace S1 := S1.below y2
                replace S2 := S2.below y2
                replace T4 := T4.below y2
                replace T5 := T5.below y2
                clear y2 z1
                go_wp2_with fail
                refine (ZZSame_any (some ⟨w3.heap.size, 0, none⟩) A0 k k k C0 s0 s0 _ T4 S0 m0).mono ?_
                rintro e x3 ⟨⟨r3, rfl, hr3⟩, y3⟩
                obtain rfl : r3 = true := hr3.2 rfl
                clear hr3
                have z3 := z2.trans (y3.mono z2.size)
                replace S0 := S0.below y3
                replace S1 := S1.below y3
                replace S2 := S2.below y3
                replace T4 := T4.below y3
                replace T5 := T5.below y3
                clear y3 z2
                go_wp2_with fail
                refine (ZZSame_any A0 (some ⟨w4.heap.size, 0, none⟩) k (k + 1) C0 (k + 1) s0 (s0 ++ [ByteArray.empty]) _ S0 T5 m0).mono ?_
                rintro e x4 ⟨⟨r4, rfl, hr4⟩, y4⟩
                obtain rfl : r4 = false := by
                  cases r4 with
                  | false => rfl
                  | true => exact absurd (hr4.1 rfl) (ne_snoc _ _)
                clear hr4
                have z4 := z3.trans (y4.mono z3.size)
                replace S0 := S0.below y4
                replace S1 := S1.below y4
                replace S2 := S2.below y4
                replace T4 := T4.below y4
                replace T5 := T5.below y4
                clear y4 z3
                go_wp2_with fail
                refine (ZZSame_any (some ⟨w4.heap.size, 0, none⟩) A0 (k + 1) k (k + 1) C0 (s0 ++ [ByteArray.empty]) s0 _ T5 S0 hk1).mono ?_
                rintro e x5 ⟨⟨r5, rfl, hr5⟩, y5⟩
                obtain rfl : r5 = false := by
                  cases r5 with
                  | false => rfl
                  | true => exact absurd (hr5.1 rfl) (fun h => ne_snoc _ _ h.symm)
                clear hr5
                have z5 := z4.trans (y5.mono z4.size)
                replace S0 := S0.below y5
                replace S1 := S1.below y5
                replace S2 := S2.below y5
                clear y5 z4
                go_wp2_with fail
                refine (ZZSame_any A0 A1 k l1 C0 C1 s0 s1 _ S0 S1 m0).mono ?_
                rintro e x6 ⟨⟨r6, rfl, hr6⟩, y6⟩
                have z6 := z5.trans (y6.mono z5.size)
                replace S0 := S0.below y6
                replace S1 := S1.below y6
                replace S2 := S2.below y6
                clear y6 z5
                go_wp2_with fail
                refine (ZZSame_any A1 A0 l1 k C1 C0 s1 s0 _ S1 S0 m1).mono ?_
                rintro e x7 ⟨⟨r7, rfl, hr7⟩, y7⟩
                have z7 := z6.trans (y7.mono z6.size)
                replace S0 := S0.below y7
                replace S1 := S1.below y7
                replace S2 := S2.below y7
                clear y7 z6
                obtain rfl : r6 = r7 := by
                  rw [Bool.eq_iff_iff, hr6, hr7]
                  exact eq_comm
                clear hr7
                cases r6 with
                | false =>
                  clear hr6
                  go_wp2_with fail
                  go_ret
                  exact ⟨rfl, z7⟩
                | true =>
                  have h01 : s0 = s1 := hr6.1 rfl
                  subst h01
                  clear hr6
                  go_wp2_with fail
                  refine (ZZSame_any A1 A2 l1 l2 C1 C2 s0 s2 _ S1 S2 m1).mono ?_
                  rintro e x8 ⟨⟨r8, rfl, hr8⟩, y8⟩
                  have z8 := z7.trans (y8.mono z7.size)
                  replace S0 := S0.below y8
                  replace S2 := S2.below y8
                  clear y8 z7
                  cases r8 with
                  | false =>
                    clear hr8
                    go_wp2_with fail
                    go_ret
                    exact ⟨rfl, z8⟩
                  | true =>
                    have h02 : s0 = s2 := hr8.1 rfl
                    clear hr8
                    go_wp2_with fail
                    refine (ZZSame_any A0 A2 k l2 C0 C2 s0 s2 _ S0 S2 m0).mono ?_
                    rintro e x9 ⟨⟨r9, rfl, hr9⟩, y9⟩
                    obtain rfl : r9 = true := hr9.2 h02
                    have z9 := z8.trans (y9.mono z8.size)
                    clear hr9 h02 y9 z8
                    go_wp2_with fail
                    go_ret
                    exact ⟨rfl, z9⟩
          · have d3 : decide (1048576 < t0 + t1 + t2) = true := by simp; omega
            go_wp2_with fail
            go_ret
            exact ⟨rfl, Below.refl _ _⟩
        · have d2 : decide (65536 < (l2 : Int)) = true := by simp; omega
          go_wp2_with fail
          go_ret
          exact ⟨rfl, Below.refl _ _⟩
      · have d1 : decide (65536 < (l1 : Int)) = true := by simp; omega
        go_wp2_with fail
        go_ret
        exact ⟨rfl, Below.refl _ _⟩
    · have d0 : decide (65536 < (l0 : Int)) = true := by simp; omega
      go_wp2_with fail
      go_ret
      exact ⟨rfl, Below.refl _ _⟩

end Go.Proofs.Qxb6602716a
