import Derived.Test.Qxb6602821aToL
import Derived.Test.Qxb6602821aAsc
import Derived.Deep.RegionWith
namespace Go.Proofs.Qxb6602821a
open Go.RowKit

theorem less_irrefl : ∀ x : List UInt8, Op.bytesLess x x = false
  | [] => rfl
  | a :: x => by simp [Op.bytesLess, less_irrefl x]

theorem not_less_of_leS {a b : ByteArray} (h : leS a b = true) : Op.bytesLess b.toList a.toList = false := by
  cases hb : Op.bytesLess b.toList a.toList with
  | false => rfl
  | true =>
    simp only [leS, Bool.or_eq_true, beq_iff_eq] at h
    rcases h with h | h
    · have := less_trans _ _ _ hb h
      rw [less_irrefl] at this
      cases this
    · rw [h, less_irrefl] at hb
      cases hb

/-- How far the model's scan has come: best is the last place below k (from 1 on) that is in force by its own date, or 0. -/
def BestOK (cs : Nat → Cfg) (d : ByteArray) (k best : Nat) (bd : ByteArray) (found : Bool) : Prop :=
  NoHit cs d (best + 1) k ∧ ((found = false ∧ best = 0) ∨ (found = true ∧ 1 ≤ best ∧ best < k ∧ hit (cs best) d = true ∧ bd = (cs best).date))

theorem BestOK.start (cs : Nat → Cfg) (d bd : ByteArray) : BestOK cs d 1 0 bd false := ⟨fun j h1 h2 => by omega, .inl ⟨rfl, rfl⟩⟩

theorem BestOK.skip {cs : Nat → Cfg} {d bd : ByteArray} {k best : Nat} {found : Bool} (h : BestOK cs d k best bd found) (hk : hit (cs k) d = false) : BestOK cs d (k + 1) best bd found := by
  refine ⟨fun j h1 h2 => ?_, ?_⟩
  · by_cases e : j = k
    · rw [e]; exact hk
    · exact h.1 j h1 (by omega)
  · rcases h.2 with h2 | ⟨h2, h3, h4, h5⟩
    · exact .inl h2
    · exact .inr ⟨h2, h3, by omega, h5⟩

theorem BestOK.take {cs : Nat → Cfg} {d : ByteArray} {k : Nat} (hk1 : 1 ≤ k) (hk : hit (cs k) d = true) : BestOK cs d (k + 1) k (cs k).date true :=
  ⟨fun j h1 h2 => by omega, .inr ⟨rfl, hk1, by omega, hk, rfl⟩⟩

/-- Where the dates ascend the scan's second test says yes. -/
theorem BestOK.geq {cs : Nat → Cfg} {d bd : ByteArray} {k best len : Nat} (h : BestOK cs d k best bd true) (hA : Asc cs len) (hk : k < len) (hp : (cs k).ptr.isSome = true) : Op.bytesLess (cs k).date.toList bd.toList = false := by
  rcases h.2 with ⟨h2, _⟩ | ⟨_, h3, h4, h5, rfl⟩
  · cases h2
  · refine not_less_of_leS (hA best k h3 h4 hk ?_ hp)
    simp only [hit, Bool.and_eq_true] at h5
    exact h5.1

theorem BestOK.pick {cs : Nat → Cfg} {d bd : ByteArray} {k best len : Nat} {found : Bool} (h : BestOK cs d k best bd found) (hlen : 0 < len) (hk : k ≤ len ∨ k = 1) (hk' : ¬ k < len) : Pick cs len d best := by
  refine ⟨?_, ?_, fun j h1 h2 => h.1 j h1 (by omega)⟩
  · rcases h.2 with ⟨_, h2⟩ | ⟨_, h3, h4, _⟩ <;> omega
  · rcases h.2 with ⟨_, h2⟩ | ⟨_, h3, h4, h5, _⟩
    · exact .inl h2
    · exact .inr h5

theorem asc_tie {cs cs' : Nat → Cfg} {len : Nat} (h : Asc cs len) (ht : ∀ i, i < len → (cs' i).ptr.isSome = (cs i).ptr.isSome ∧ (cs' i).date = (cs i).date) : Asc cs' len := fun i j h1 h2 h3 hi hj => by
  rw [(ht i (by omega)).2, (ht j h3).2]
  exact h i j h1 h2 h3 (by rw [← (ht i (by omega)).1]; exact hi) (by rw [← (ht j h3).1]; exact hj)

set_option maxRecDepth 100000 in
set_option maxHeartbeats 1600000 in
theorem latest_any (ao : Option Addr) (len cap : Nat) (cs : Nat → Cfg) (lab : Nat → Nat → ByteArray) (mn : Nat → Nat → Int) (s : ByteArray) (w : World) (hI : In w ao len cs lab mn) (hm : len ≤ maxLen) (hnil : ao = none → len = 0 ∧ cap = 0) :
    Calls Try.prog 3 #[.slice ao len cap, .string s] w fun e w' => e = .returned (.bool true) ∧ Below w.heap.size w w' := by
  have hn : ∀ (w : World) (a : Option Addr) (n c n' c' : Nat), (binOp .eql 28 (.slice a n c) (.slice none n' c')).run Try.prog w = .ok (.bool a.isNone) w := fun w a n c n' c' => Lib.run_eql_slice_nil w _ _ a n c n' c' Try.underlying28
  go_enter Try.func3, Try.ntmps3
  go_wp2_with fail
  refine (zzBytesC_any ao len cap cs lab mn s _ hI hm).mono ?_
  rintro e w' ⟨⟨r, rfl⟩, hw⟩
  obtain rfl := hw.symm
  clear hw
  cases r with
  | false =>
    go_wp2_with fail
    go_ret
    exact ⟨rfl, Below.refl _ _⟩
  | true =>
    go_wp2_with fail
    refine (cfgOK_any ao len cap cs lab mn s _ hI hm).mono ?_
    rintro e w' ⟨⟨r, rfl, hsm0⟩, hw⟩
    obtain rfl := hw.symm
    clear hw
    cases r with
    | false =>
      clear hsm0
      go_wp2_with fail
      go_ret
      exact ⟨rfl, Below.refl _ _⟩
    | true =>
      obtain ⟨hl, hsm⟩ := hsm0 rfl
      clear hsm0
      go_wp2_with fail
      refine (asc_any ao len cap cs _ hI.1 hl).mono ?_
      rintro e w' ⟨⟨r, rfl, hasc⟩, hw⟩
      obtain rfl := hw.symm
      clear hw
      cases r with
      | false =>
        clear hasc
        go_wp2_with fail
        go_ret
        exact ⟨rfl, Below.refl _ _⟩
      | true =>
        have hA := hasc rfl
        clear hasc
        go_wp2_with fail
        refine (toLedger_any ao len cap cs lab mn _ hI hl hsm hnil).mono ?_
        rintro e w1 ⟨L, lc, ds, rfl, hC, htie, y1⟩
        replace hA := asc_tie hA (fun i hi => ⟨(htie i hi).1, (htie i hi).2.1⟩)
        have HT : Hid (∀ i, i < len → (ds i).tl ≤ 65536 ∧ Tiers3 w1 (ds i).tp (ds i).tl) := fun i hi => (htie i hi).2.2
        clear hI htie hsm hnil
        go_wp2_with fail
        refine (ZZinForce_any L len lc ds s _ hC (by omega)).mono ?_
        rintro e w2 ⟨h | ⟨q, hq, rfl⟩, y2⟩
        · obtain ⟨h0, rfl⟩ := h
          subst h0
          have z2 := y1.trans (y2.mono y1.size)
          clear y1 y2 hC hA HT
          go_wp2_with fail
          go_ret
          exact ⟨rfl, z2.alloc z2.size _⟩
        · have hq1 := hq.1
          have hz : ((len : Int) == 0) = false := by simp; omega
          have z2 := y1.trans (y2.mono y1.size)
          obtain ⟨W3, hW3⟩ : ∃ W3, W3 = w2.alloc (.cells #[.int .i64 (ds q).ver, .pointer (ds q).ptr, .int .i64 (ds q).near, .slice (ds q).tp (ds q).tl (ds q).tc] 30) := ⟨_, rfl⟩
          have HW : Hid (W3 = w2.alloc (.cells #[.int .i64 (ds q).ver, .pointer (ds q).ptr, .int .i64 (ds q).near, .slice (ds q).tp (ds q).tl (ds q).tc] 30)) := hW3
          have y3 : Below w2.heap.size w2 W3 := by rw [hW3]; exact (Below.refl _ _).alloc (Nat.le_refl _) _
          have hrow : W3.heap[w2.heap.size]? = some (.cells #[.int .i64 (ds q).ver, .pointer (ds q).ptr, .int .i64 (ds q).near, .slice (ds q).tp (ds q).tl (ds q).tc] 30 (0, 0)) := by rw [hW3]; exact heap_alloc_new w2 _
          obtain ⟨c0, c1, c2, c3, _⟩ := cells4 hrow
          have z3 := z2.trans (y3.mono z2.size)
          have hC3 := (hC.below y2).below y3
          have hT3 := ((HT.out q hq1).2.below y2).below y3
          have hT4 := (HT.out q hq1).1
          have HQ : Hid (Pick ds len s q) := hq
          clear hW3 y1 y2 y3 z2 hC HT hq hrow
          go_wp2_with fail
          rw [← HW.out]
          go_loop [8, 9, 10, 11] (fun bs bd fd i => ∃ (k best : Nat) (d : ByteArray) (found : Bool), 1 ≤ k ∧ (k ≤ len ∨ k = 1) ∧ best < len ∧ i = .int .i64 k ∧ bs = .int .i64 best ∧ bd = .string d ∧ fd = .bool found ∧ BestOK ds s k best d found) (fun _ _ _ i => len - (intOf i).toNat)
          case atStart => exact ⟨1, 0, _, false, by omega, .inr rfl, by omega, rfl, rfl, rfl, rfl, BestOK.start _ _ _⟩
          case round =>
            obtain ⟨k, best, d, found, hk1, hk2, hb1, rfl, rfl, rfl, rfl, hbest⟩ := hrel
            by_cases hlt : k < len
            · obtain ⟨b, off, had, hb, hc⟩ := hC3 (by omega)
              subst had
              obtain ⟨q0, q1, q2, q3, q4⟩ := hc k hlt
              have hgeq := fun (hf : found = true) (hp : (ds k).ptr.isSome = true) => BestOK.geq (hf ▸ hbest) hA hlt hp
              have HG : Hid (found = true → (ds k).ptr.isSome = true → Op.bytesLess (ds k).date.toList d.toList = false) := hgeq
              obtain ⟨c, hcm⟩ : ∃ c, c = ds k := ⟨_, rfl⟩
              rw [← hcm] at q0 q1 q2 q3 q4 HG
              have HC : Hid (c = ds k) := hcm
              clear hc hcm hgeq hA c0 c1 c2 c3 hT3
              obtain ⟨cv, cp, cn, tp, tl, tc, cd⟩ := c
              simp only at q0 q1 q2 q3 q4
              cases cp with
              | none =>
                have hb' := hbest.skip (by rw [← HC.out]; rfl)
                clear q4 hbest HG
                go_wp2_with fail
                go_round
                case rel => exact ⟨k + 1, best, d, found, by omega, by omega, by omega, by go_num, rfl, rfl, rfl, hb'⟩
                case measure => simp [intOf]; omega
              | some ad =>
                obtain ⟨b', off', hpa, hb', hd⟩ := q4 ad rfl
                subst hpa
                clear q4
                cases hle : (Op.bytesLess cd.toList s.toList || cd.toList == s.toList) with
                | false =>
                  have hbb := hbest.skip (by rw [← HC.out]; simp only [hit, leS, hle]; rfl)
                  clear hbest HG
                  go_wp2_with fail
                  go_round
                  case rel => exact ⟨k + 1, best, d, found, by omega, by omega, by omega, by go_num, rfl, rfl, rfl, hbb⟩
                  case measure => simp [intOf]; omega
                | true =>
                  have hbb : BestOK ds s (k + 1) k cd true := by
                    have := BestOK.take (cs := ds) (d := s) hk1 (by rw [← HC.out]; simp only [hit, leS, hle]; rfl)
                    rw [← HC.out] at this; exact this
                  clear hbest
                  cases found with
                  | false =>
                    clear HG
                    go_wp2_with fail
                    go_round
                    case rel => exact ⟨k + 1, k, cd, true, by omega, by omega, by omega, by go_num, rfl, rfl, rfl, hbb⟩
                    case measure => simp [intOf]; omega
                  | true =>
                    have hg := HG.out rfl rfl
                    simp only at hg
                    clear HG
                    go_wp2_with fail
                    go_round
                    case rel => exact ⟨k + 1, k, cd, true, by omega, by omega, by omega, by go_num, rfl, rfl, rfl, hbb⟩
                    case measure => simp [intOf]; omega
            · obtain rfl : q = best := HQ.out.unique (hbest.pick (by omega) hk2 hlt)
              obtain ⟨b, off, had, hb, hc⟩ := hC3 (by omega)
              subst had
              obtain ⟨q0, q1, q2, q3, _⟩ := hc q hq1
              have hqI : (q : Int) < (len : Int) := by omega
              clear hc hA hbest
              go_wp2_with fail
              go_region_with (go_at_call 10; refine (same_any (ds q).ver (ds q).near (ds q).ptr (ds q).tp (ds q).tl (ds q).tc _ (hT3.below (Below.refl _ _).drew) hT4).mono ?_; rintro e w' ⟨rfl, y5⟩)
              all_goals (go_wp2_with fail; go_ret; exact ⟨rfl, z3.trans ((Below.refl _ _).drew.trans (by assumption) |>.mono z3.size)⟩)

end Go.Proofs.Qxb6602821a
