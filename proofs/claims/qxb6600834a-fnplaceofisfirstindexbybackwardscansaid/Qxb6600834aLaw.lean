import Derived.Test.Qxb6600834aClone
namespace Go.Proofs.Qxb6600834a
open Go.RowKit

theorem IsPlace.start (ss : List ByteArray) (s : ByteArray) (len : Nat) : IsPlace ss s len len (-1) := .inl ⟨rfl, NoHit.nil _ _ _⟩

/-- From the clone on. -/
theorem Strs.below {w w1 : World} {ao : Option Addr} {len : Nat} {ss : List ByteArray} (h : Strs w ao len ss) (hb : Below w.heap.size w w1) : Strs w1 ao len ss := by
  refine ⟨h.1, fun h0 => ?_⟩
  obtain ⟨b, off, h1, h2, h3⟩ := h.2 h0
  exact ⟨b, off, h1, Nat.lt_of_lt_of_le h2 hb.size, fun i hi => (hb.cell (by exact h2)).trans (h3 i hi)⟩

set_option maxHeartbeats 800000 in
theorem law_any (ao : Option Addr) (len cap : Nat) (ss : List ByteArray) (s : ByteArray) (w : World) (hS : Strs w ao len ss) (hm : len ≤ maxLen) (hs : s.size ≤ maxLen) (hsm : ∀ i, (ss.getD i ByteArray.empty).size ≤ maxLen) (hnil : ao = none → len = 0 ∧ cap = 0) :
    Calls Try.prog 3 #[.slice ao len cap, .string s] w fun e w' => e = .returned (.bool true) ∧ Below w.heap.size w w' := by
  have hm' := hm
  have hs' := hs
  unfold maxLen at hm' hs'
  go_enter Try.func3, Try.ntmps3
  go_wp2_with fail
  refine (zzBytes_any ao len cap ss s _ hS hm hs hsm).mono ?_
  rintro e w' ⟨⟨r, rfl⟩, hw⟩
  obtain rfl := hw.symm
  clear hw
  cases r with
  | false =>
    go_wp2_with fail
    go_ret
    exact ⟨rfl, Below.refl _ _⟩
  | true =>
    by_cases h1 : len ≤ 65536
    · by_cases h2 : s.size ≤ 1048576
      · have d1 : decide (65536 < (len : Int)) = false := by simp; omega
        have d2 : decide (1048576 < (s.size : Int)) = false := by simp; omega
        go_wp2_with fail
        go_loop [5, 6] (fun n i => ∃ k : Nat, k ≤ len ∧ (∃ t : Int, n = .int .i64 t) ∧ i = .int .i64 k) (fun _ i => len - (intOf i).toNat)
        case atStart => exact ⟨0, by omega, ⟨_, rfl⟩, rfl⟩
        case round =>
          obtain ⟨k, hk, ⟨t, rfl⟩, rfl⟩ := hrel
          by_cases hlt : k < len
          · obtain ⟨b, off, had, hb, hc⟩ := hS.2 (by omega)
            subst had
            have hck := hc k hlt
            generalize ss.getD k ByteArray.empty = x at hck
            clear hc
            go_wp2_with fail
            · go_ret
              exact ⟨rfl, Below.refl _ _⟩
            · go_round
              case rel => exact ⟨k + 1, by omega, ⟨_, rfl⟩, by go_num⟩
              case measure => simp [intOf]; omega
          · go_wp2_with fail
            refine (clone_any ao len cap ss _ hS h1 hnil).mono ?_
            rintro e w1 ⟨ao', cap', rfl, hS', hB⟩
            clear hS hnil hsm
            go_wp2_with fail
            go_loop [7, 8] (fun v i => ∃ n r : Int, i = .int .i64 n ∧ v = .int .i64 r ∧ -1 ≤ n ∧ n < len ∧ IsPlace ss s (n + 1).toNat len r) (fun _ i => (intOf i + 1).toNat)
            case atStart => exact ⟨_, _, rfl, rfl, by omega, by omega, by rw [show ((len : Int) - 1 + 1).toNat = len from by omega]; exact IsPlace.start _ _ _⟩
            case round =>
              obtain ⟨n, r, rfl, rfl, hn1, hn2, hpl⟩ := hrel
              by_cases hge : 0 ≤ n
              · obtain ⟨m, rfl⟩ := Int.eq_ofNat_of_zero_le hge
                obtain ⟨b, off, had, hb, hc⟩ := hS'.2 (by omega)
                subst had
                have hck := hc m (by omega)
                obtain ⟨x, hx⟩ : ∃ x, x = ss.getD m ByteArray.empty := ⟨_, rfl⟩
                rw [← hx] at hck
                have HX : Hid (x = ss.getD m ByteArray.empty) := hx
                clear hc hx
                go_wp2_with fail
                · have ht : (x.toList == s.toList) = true := by assumption
                  go_round
                  case rel => exact ⟨_, _, rfl, rfl, by omega, by omega, by rw [show ((m : Int) - 1 + 1).toNat = m from by omega]; exact IsPlace.here (by omega) (by unfold hit; rw [← HX.out]; exact ht)⟩
                  case measure => simp [intOf]
                · have ht : (x.toList == s.toList) = false := by assumption
                  go_round
                  case rel => exact ⟨_, _, rfl, rfl, by omega, by omega, by rw [show ((m : Int) - 1 + 1).toNat = m from by omega]; exact IsPlace.down hpl (by unfold hit; rw [← HX.out]; exact ht)⟩
                  case measure => simp [intOf]
              · have hnn : n = -1 := by omega
                subst hnn
                go_wp2_with fail
                refine (ZZPlaceOf_any ao' len cap' ss s _ hS' hm).mono ?_
                rintro e w2 ⟨⟨r', rfl, hr'⟩, hw⟩
                obtain rfl := hw.symm
                obtain rfl := hr'.unique hpl
                clear hw
                go_wp2_with fail
                go_ret
                exact ⟨by simp, hB⟩
      · go_wp2_with fail
        go_ret
        exact ⟨rfl, Below.refl _ _⟩
    · go_wp2_with fail
      go_ret
      exact ⟨rfl, Below.refl _ _⟩

end Go.Proofs.Qxb6600834a
