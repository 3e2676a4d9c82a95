import Derived.Test.Qxb6602695aMatch
namespace Go.Proofs.Qxb6602695a
open Go.RowKit Go.Maps

theorem string_eq {c1 c2 : ByteArray} {d : DataW Unit} (h1 : d = .lit (.string c1.data.toList)) (h2 : d = .lit (.string c2.data.toList)) : c1 = c2 := by
  rw [h1] at h2
  simp only [DataW.lit.injEq, Lit.string.injEq] at h2
  cases c1; cases c2
  simp at h2
  rw [h2]

set_option maxRecDepth 100000 in
set_option maxHeartbeats 1600000 in
theorem law_any (a0 a1 a2 : Option Addr) (l0 l1 l2 c0 c1 c2 : Nat) (n0 v0 n1 v1 n2 v2 : Nat → ByteArray) (s : ByteArray) (w : World) (h0 : Attrs w a0 l0 n0 v0) (h1 : Attrs w a1 l1 n1 v1) (h2 : Attrs w a2 l2 n2 v2) (m0 : l0 ≤ maxLen) (m1 : l1 ≤ maxLen) (m2 : l2 ≤ maxLen) (hs : s.size ≤ maxLen)
    (e0 : a0 = none → l0 = 0 ∧ c0 = 0) (e1 : a1 = none → l1 = 0 ∧ c1 = 0) (e2 : a2 = none → l2 = 0 ∧ c2 = 0) :
    Calls Try.prog 3 #[.slice a0 l0 c0, .slice a1 l1 c1, .slice a2 l2 c2, .string s] w fun e w' => e = .returned (.bool true) ∧ Below w.heap.size w w' := by
  have hs' := hs
  unfold maxLen at hs'
  go_enter Try.func3, Try.ntmps3
  go_wp2_with fail
  refine (zzBytes_any a0 a1 a2 l0 l1 l2 c0 c1 c2 n0 v0 n1 v1 n2 v2 s _ h0 h1 h2 m0 m1 m2).mono ?_
  rintro e w' ⟨⟨r, rfl⟩, hw⟩
  obtain rfl := hw.symm
  clear hw
  cases r with
  | false =>
    go_wp2_with fail
    go_ret
    exact ⟨rfl, Below.refl _ _⟩
  | true =>
    by_cases hk : s.size ≤ 1048576
    · have d1 : decide (1048576 < (s.size : Int)) = false := by simp; omega
      go_wp2_with fail
      refine (attrBytes_any a0 l0 c0 n0 v0 _ h0 m0).mono ?_
      rintro e w1 ⟨⟨t0, rfl⟩, b1⟩
      go_wp2_with fail
      refine (attrBytes_any a1 l1 c1 n1 v1 _ (h1.below b1) m1).mono ?_
      rintro e w2 ⟨⟨t1, rfl⟩, b2⟩
      have b2' := b1.trans (b2.mono b1.size)
      go_wp2_with fail
      refine (attrBytes_any a2 l2 c2 n2 v2 _ (h2.below b2') m2).mono ?_
      rintro e w3 ⟨⟨t2, rfl⟩, b3⟩
      have b3' := b2'.trans (b3.mono b2'.size)
      go_wp2_with fail
      · go_ret
        exact ⟨rfl, b3'⟩
      · refine (identity_any a0 l0 c0 n0 v0 _ (h0.below b3') m0 e0).mono ?_
        rintro e w4 ⟨pv, P, rfl, hP, b4⟩
        have b4' := b3'.trans (b4.mono b3'.size)
        clear b1 b2 b2' b3
        go_wp2_with fail
        refine (identity_any a1 l1 c1 n1 v1 _ (h1.below b4') m1 e1).mono ?_
        rintro e w5 ⟨qv, Q, rfl, hQ, b5⟩
        have b5' := b4'.trans (b5.mono b4'.size)
        replace hP := hP.below b5
        go_wp2_with fail
        refine (identity_any a2 l2 c2 n2 v2 _ (h2.below b5') m2 e2).mono ?_
        rintro e w6 ⟨rv, R, rfl, hR, b6⟩
        have b6' := b5'.trans (b6.mono b5'.size)
        replace hP := hP.below b6
        replace hQ := hQ.below b6
        clear h0 h1 h2 m0 m1 m2 e0 e1 e2 b3' b4 b4' b5 b5' b6
        have cP := canon_of hP
        have cQ := canon_of hQ
        go_wp2_with fail
        refine (ZZmatches_any pv pv P P _ hP hP).mono ?_
        rintro e w7 ⟨⟨r1, rfl, hr1⟩, b7⟩
        obtain rfl : r1 = true := hr1.2 (Within.refl _)
        have b7' := b6'.trans (b7.mono b6'.size)
        replace hP := hP.below b7
        replace hQ := hQ.below b7
        replace hR := hR.below b7
        clear b6' b7 hr1
        go_wp2_with fail
        refine (ZZmatches_any (.map none) qv (.map []) Q _ (.inl ⟨rfl, rfl⟩) hQ).mono ?_
        rintro e w8 ⟨⟨r2, rfl, hr2⟩, b8⟩
        obtain rfl : r2 = true := hr2.2 (Within.empty _)
        have b8' := b7'.trans (b8.mono b7'.size)
        replace hP := hP.below b8
        replace hQ := hQ.below b8
        replace hR := hR.below b8
        clear b7' b8 hr2
        go_wp2_with fail
        refine (ZZmatches_any pv (.map none) P (.map []) _ hP (.inl ⟨rfl, rfl⟩)).mono ?_
        rintro e w9 ⟨⟨r3, rfl, hr3⟩, b9⟩
        rw [Within.of_empty cP] at hr3
        have b9' := b8'.trans (b9.mono b8'.size)
        replace hP := hP.below b9
        replace hQ := hQ.below b9
        replace hR := hR.below b9
        clear b8' b9
        have ht : ((Maps.size P : Int) == 0) = r3 := by
          cases r3 with
          | true => simp [hr3.1 rfl]
          | false => 
            have : ¬ Maps.size P = 0 := fun h => by have := hr3.2 h; cases this
            simp; omega
        clear hr3
        go_wp2_with (first | (at_len; refine wpList_len_any _ rfl _ 25 rfl Try.underlying25 _ P rfl hP ?_))
        clear ht
        refine (ZZmatches_any pv qv P Q _ hP hQ).mono ?_
        rintro e w10 ⟨⟨r4, rfl, hr4⟩, b10⟩
        have b10' := b9'.trans (b10.mono b9'.size)
        replace hP := hP.below b10
        replace hQ := hQ.below b10
        replace hR := hR.below b10
        clear b9' b10
        cases r4 with
        | false =>
          clear hr4
          go_wp2_with fail
          go_ret
          exact ⟨rfl, b10'⟩
        | true =>
          have hPQ : Within P Q := hr4.1 rfl
          clear hr4
          go_wp2_with fail
          refine (ZZmatches_any qv rv Q R _ hQ hR).mono ?_
          rintro e w11 ⟨⟨r5, rfl, hr5⟩, b11⟩
          have b11' := b10'.trans (b11.mono b10'.size)
          replace hP := hP.below b11
          replace hQ := hQ.below b11
          replace hR := hR.below b11
          clear b10' b11
          cases r5 with
          | false =>
            clear hr5
            go_wp2_with fail
            refine (ZZmatches_any qv pv Q P _ hQ hP).mono ?_
            rintro e w13 ⟨⟨r7, rfl, hr7⟩, b13⟩
            have b13' := b11'.trans (b13.mono b11'.size)
            replace hP := hP.below b13
            replace hQ := hQ.below b13
            clear b11' b13 hR
            cases r7 with
            | false =>
              clear hr7
              go_wp2_with fail
              go_ret
              exact ⟨rfl, b13'⟩
            | true =>
              obtain rfl : P = Q := Within.antisymm cP cQ hPQ (hr7.1 rfl)
              clear hr7
              go_wp2_with (first
                | (at_len; refine wpList_len_any _ rfl (.tmp 80) 25 rfl Try.underlying25 _ P rfl hP ?_)
                | (at_len; refine wpList_len_any _ rfl (.tmp 82) 25 rfl Try.underlying25 _ P rfl hQ ?_)
                | (at_lookup; refine wpList_look_any _ rfl (.tmp 86) _ 25 rfl Try.underlying25 _ P rfl hP s hs rfl ?_; intro x1 hx1)
                | (at_lookup; refine wpList_look_any _ rfl (.tmp 92) _ 25 rfl Try.underlying25 _ P rfl hQ s hs rfl ?_; intro x2 hx2; obtain rfl := string_eq hx1 hx2))
              go_ret
              exact ⟨rfl, b13'⟩
          | true =>
            have hQR : Within Q R := hr5.1 rfl
            clear hr5
            go_wp2_with fail
            refine (ZZmatches_any pv rv P R _ hP hR).mono ?_
            rintro e w12 ⟨⟨r6, rfl, hr6⟩, b12⟩
            obtain rfl : r6 = true := hr6.2 (hPQ.trans hQR)
            have b12' := b11'.trans (b12.mono b11'.size)
            replace hP := hP.below b12
            replace hQ := hQ.below b12
            clear b11' b12 hR hr6 hQR
            go_wp2_with fail
            refine (ZZmatches_any qv pv Q P _ hQ hP).mono ?_
            rintro e w13 ⟨⟨r7, rfl, hr7⟩, b13⟩
            have b13' := b12'.trans (b13.mono b12'.size)
            replace hP := hP.below b13
            replace hQ := hQ.below b13
            clear b12' b13
            cases r7 with
            | false =>
              clear hr7
              go_wp2_with fail
              go_ret
              exact ⟨rfl, b13'⟩
            | true =>
              obtain rfl : P = Q := Within.antisymm cP cQ hPQ (hr7.1 rfl)
              clear hr7
              go_wp2_with (first
                | (at_len; refine wpList_len_any _ rfl (.tmp 80) 25 rfl Try.underlying25 _ P rfl hP ?_)
                | (at_len; refine wpList_len_any _ rfl (.tmp 82) 25 rfl Try.underlying25 _ P rfl hQ ?_)
                | (at_lookup; refine wpList_look_any _ rfl (.tmp 86) _ 25 rfl Try.underlying25 _ P rfl hP s hs rfl ?_; intro x1 hx1)
                | (at_lookup; refine wpList_look_any _ rfl (.tmp 92) _ 25 rfl Try.underlying25 _ P rfl hQ s hs rfl ?_; intro x2 hx2; obtain rfl := string_eq hx1 hx2))
              go_ret
              exact ⟨rfl, b13'⟩
    · have d1 : decide (1048576 < (s.size : Int)) = true := by simp; omega
      go_wp2_with fail
      go_ret
      exact ⟨rfl, Below.refl _ _⟩

end Go.Proofs.Qxb6602695a
