import Derived.Test.Qxb6602821aFrom
import Derived.Test.Qxb6602821aLc
namespace Go.Proofs.Qxb6602821a
open Go.RowKit

theorem Froms.below {w w1 : World} {ao : Option Addr} {len : Nat} {st : Nat → Bool} {dt : Nat → ByteArray} (h : Froms w ao len st dt) (hb : Below w.heap.size w w1) : Froms w1 ao len st dt := by
  intro h0
  obtain ⟨b, off, h1, h2, h3⟩ := h h0
  exact ⟨b, off, h1, Nat.lt_of_lt_of_le h2 hb.size, fun i hi => ⟨(hb.cell (by exact h2)).trans (h3 i hi).1, (hb.cell (by exact h2)).trans (h3 i hi).2⟩⟩

theorem size_set (w : World) (a : Addr) (v : Value) : (w.setCell a v).heap.size = w.heap.size := by simp [World.setCell]

theorem Lc.stepNo {g N k : Nat} {w : World} {cs : Nat → Cfg} (h : Lc g N k w cs) (hk : k < N) (n : Int) (x : ByteArray) :
    Lc g N (k + 1) (w.setCell ⟨g, k * 4, none⟩ (.int .i64 n)) (upd cs k ⟨n, none, 0, none, 0, 0, x⟩) := by
  refine h.put hk _ (by rw [size_set]; exact Nat.le_refl _) (fun b _ hb => heap_setCell_other w ⟨g, k * 4, none⟩ b _ hb) (fun cur h1 h2 h3 => ?_)
  obtain ⟨z0, z1, z2, z3⟩ := h3
  refine ⟨_, heap_setCell_same w g (k * 4) cur 30 _ h1, by simp, fun j hj => ?_, ?_, ?_, ?_, ?_, fun ad had => by cases had⟩
  · rw [Array.getElem?_setIfInBounds, if_neg (by omega)]
  · rw [Array.getElem?_setIfInBounds, if_pos rfl, if_pos (by omega)]
  · rw [Array.getElem?_setIfInBounds, if_neg (by omega)]; exact z1
  · rw [Array.getElem?_setIfInBounds, if_neg (by omega)]; exact z2
  · rw [Array.getElem?_setIfInBounds, if_neg (by omega)]; exact z3

theorem Lc.stepYes {g N k : Nat} {w : World} {cs : Nat → Cfg} (h : Lc g N k w cs) (hk : k < N) (n : Int) (x : ByteArray) :
    Lc g N (k + 1) (((w.setCell ⟨g, k * 4, none⟩ (.int .i64 n)).setCell ⟨g, k * 4 + 1, none⟩ (.pointer (some ⟨w.heap.size, 0, none⟩))).alloc (.cells #[.string x] 9)) (upd cs k ⟨n, some ⟨w.heap.size, 0, none⟩, 0, none, 0, 0, x⟩) := by
  have hlt := h.lt
  have hs : ((w.setCell ⟨g, k * 4, none⟩ (.int .i64 n)).setCell ⟨g, k * 4 + 1, none⟩ (.pointer (some ⟨w.heap.size, 0, none⟩))).heap.size = w.heap.size := by rw [size_set, size_set]
  refine h.put hk _ ?_ (fun b hb hbg => ?_) (fun cur h1 h2 h3 => ?_)
  · simp [hs]
  · rw [Below.heap_alloc _ _ _ (by rw [hs]; exact hb), heap_setCell_other _ ⟨g, k * 4 + 1, none⟩ b _ hbg, heap_setCell_other w ⟨g, k * 4, none⟩ b _ hbg]
  · obtain ⟨z0, z1, z2, z3⟩ := h3
    have e1 := heap_setCell_same w g (k * 4) cur 30 (.int .i64 n) h1
    have e2 := heap_setCell_same _ g (k * 4 + 1) _ 30 (.pointer (some ⟨w.heap.size, 0, none⟩)) e1
    refine ⟨_, (Below.heap_alloc _ _ _ (by rw [hs]; exact hlt)).trans e2, by simp, fun j hj => ?_, ?_, ?_, ?_, ?_, fun ad had => ?_⟩
    · rw [Array.getElem?_setIfInBounds, if_neg (by omega), Array.getElem?_setIfInBounds, if_neg (by omega)]
    · rw [Array.getElem?_setIfInBounds, if_neg (by omega), Array.getElem?_setIfInBounds, if_pos rfl, if_pos (by omega)]
    · rw [Array.getElem?_setIfInBounds, if_pos rfl, if_pos (by simp; omega)]
    · rw [Array.getElem?_setIfInBounds, if_neg (by omega), Array.getElem?_setIfInBounds, if_neg (by omega)]; exact z2
    · rw [Array.getElem?_setIfInBounds, if_neg (by omega), Array.getElem?_setIfInBounds, if_neg (by omega)]; exact z3
    · simp only [Option.some.injEq] at had
      refine ⟨w.heap.size, had.symm, by omega, by simp [hs], ?_⟩
      have hn := heap_alloc_new ((w.setCell ⟨g, k * 4, none⟩ (.int .i64 n)).setCell ⟨g, k * 4 + 1, none⟩ (.pointer (some ⟨w.heap.size, 0, none⟩))) (.cells #[.string x] 9)
      rw [hs] at hn
      rw [cell_of_row _ _ 0 _ 9 (0, 0) hn]
      rfl

/-- What the place that was picked owes zzPickedOnOrBefore. -/
theorem Pick.owes {cs : Nat → Cfg} {len k : Nat} {d : ByteArray} (h : Pick cs len d k) : (k : Int) + 1 = 1 ∨ ((cs k).ptr.isSome = true ∧ leS (cs k).date d = true) := by
  rcases h.2.1 with e | e
  · exact .inl (by omega)
  · exact .inr (by simpa [hit] using e)

theorem Cfgs.target {w : World} {ao : Option Addr} {len : Nat} {cs : Nat → Cfg} (h : Cfgs w ao len cs) {k : Nat} (hk : k < len) :
    ∀ ad, (cs k).ptr = some ad → ∃ b' off', ad = ⟨b', off', none⟩ ∧ b' < w.heap.size ∧ w.cell? ⟨b', off', none⟩ = some (.string (cs k).date) := by
  obtain ⟨b, off, _, _, hc⟩ := h (by omega)
  exact (hc k hk).2.2.2.2

theorem ver_upd {cs : Nat → Cfg} {k : Nat} {c : Cfg} (h : ∀ i, i < k → (cs i).ver = i + 1) (hc : c.ver = (k : Int) + 1) : ∀ i, i < k + 1 → (upd cs k c i).ver = i + 1 := fun i hi => by
  by_cases e : i = k
  · subst e; rw [upd_same]; exact hc
  · rw [upd_other _ _ _ e]; exact h i (by omega)

set_option maxRecDepth 100000 in
set_option maxHeartbeats 1600000 in
theorem later_any (ao : Option Addr) (len cap : Nat) (st : Nat → Bool) (dt : Nat → ByteArray) (s1 s2 : ByteArray) (w : World) (hF : Froms w ao len st dt) (hm : len ≤ maxLen) (h1 : s1.size ≤ maxLen) (h2 : s2.size ≤ maxLen) :
    Calls Try.prog 4 #[.slice ao len cap, .string s1, .string s2] w fun e w' => e = .returned (.bool true) ∧ Below w.heap.size w w' := by
  obtain ⟨i0, hi, hz0, hz1, hz2⟩ := info_parts Try.info30
  go_enter Try.func4, Try.ntmps4
  go_wp2_with fail
  refine (zzBytesF_any ao len cap st dt s1 s2 _ hF hm).mono ?_
  rintro e w' ⟨⟨r, rfl⟩, hw⟩
  obtain rfl := hw.symm
  clear hw
  cases r with
  | false =>
    go_wp2_with fail
    go_ret
    exact ⟨rfl, Below.refl _ _⟩
  | true =>
    go_wp2_with fail
    refine (fromOK_any ao len cap st dt s1 s2 _ hF hm h1 h2).mono ?_
    rintro e w' ⟨⟨r, rfl, hsm⟩, hw⟩
    obtain rfl := hw.symm
    clear hw
    cases r with
    | false =>
      clear hsm
      go_wp2_with fail
      go_ret
      exact ⟨rfl, Below.refl _ _⟩
    | true =>
      have hl : len ≤ 65536 := hsm rfl
      clear hsm
      have hbytes : i0.bytes * len ≤ 281474976710656 := by rw [hz2]; omega
      cases hless : Op.bytesLess s2.toList s1.toList with
      | true =>
        go_wp2_with (at_make; refine wpList_make_full _ rfl _ _ 25 rfl w.heap.size 30 i0 _ 4 Try.underlying25 hi hz0 hz1 _ _ _ _ len rfl rfl (by omega) (by omega) hbytes hm (Nat.le_refl _) ?_; intro w1 hown hgrow)
        have hL : Lc w.heap.size len 0 w1 (fun _ => ⟨0, none, 0, none, 0, 0, ByteArray.empty⟩) := Lc.made _ hown
        have hB : Below w.heap.size w w1 := (Below.refl _ _).grown hgrow (Nat.le_refl _) (by simp)
        clear hown hgrow hbytes hi hz0 hz1 hz2
        go_loopw [10] (fun i wr => ∃ (k : Nat) (cs : Nat → Cfg), k ≤ len ∧ i = .int .i64 k ∧ Lc w.heap.size len k wr cs ∧ (∀ i, i < k → (cs i).ver = i + 1) ∧ Below w.heap.size w wr) (fun i _ => len - (intOf i).toNat)
        case atStart => exact ⟨0, _, by omega, rfl, hL, fun i hi => by omega, hB⟩
        case round =>
          clear hL hB
          obtain ⟨k, cs, hk, rfl, hL, hver, hB⟩ := hrel
          by_cases hlt : k < len
          · obtain ⟨b, off, had, hb, hc⟩ := hF (by omega)
            subst had
            obtain ⟨v0, hv0⟩ := hL.cell (k * 4) (by omega)
            have hf0 := hL.frozen (k * 4)
            obtain ⟨v1, hv1⟩ := hL.cell (k * 4 + 1) (by omega)
            have hf1 := hL.frozen (k * 4 + 1)
            have hgl := hL.lt
            have b1 := hB.setCell (p := ⟨w.heap.size, k * 4, none⟩) (Nat.le_refl _) (.int .i64 ((k : Int) + 1))
            have hc1 := (b1.cell (by exact hb)).trans (hc k hlt).1
            have hc2 := (b1.cell (by exact hb)).trans (hc k hlt).2
            generalize st k = s at hc1
            generalize dt k = x at hc2
            have HV : Hid (∀ i, i < k → (cs i).ver = i + 1) := hver
            clear hc hver
            cases s with
            | false =>
              have hL' := hL.stepNo hlt ((k : Int) + 1) x
              clear hL hB
              go_wp2_with fail
              go_roundw
              case rel => exact ⟨k + 1, _, by omega, by go_num, hL', ver_upd HV.out rfl, b1⟩
              case measure => simp [intOf]; omega
            | true =>
              have hL' := hL.stepYes hlt ((k : Int) + 1) x
              have b2 := (b1.setCell (p := ⟨w.heap.size, k * 4 + 1, none⟩) (Nat.le_refl _) (.pointer (some ⟨wr.heap.size, 0, none⟩))).alloc (by rw [size_set, size_set]; exact Nat.le_of_lt hgl) (.cells #[.string x] 9)
              clear hL hB b1
              go_wp2_with fail
              go_roundw
              case rel => exact ⟨k + 1, _, by omega, by go_num, hL', ver_upd HV.out rfl, b2⟩
              case measure => simp [intOf]; omega
          · have hkl : k = len := by omega
            subst hkl
            have hC := hL.cfgs
            have HV : Hid (∀ i, i < k → (cs i).ver = i + 1) := hver
            have hg := hL.lt
            clear hL hver hF
            go_wp2_with fail
            refine (ZZinForce_any (some ⟨w.heap.size, 0, none⟩) k k cs s2 _ hC (by omega)).mono ?_
            rintro e w2 ⟨h | ⟨k1, hk1, rfl⟩, y2⟩
            · obtain ⟨h0, rfl⟩ := h
              subst h0
              have z2 := hB.trans (y2.mono hB.size)
              have y3 : Below w2.heap.size w2 (w2.alloc (.cells #[.int .i64 0, .pointer none, .int .i64 0, .slice none 0 0] 30)) := (Below.refl _ _).alloc (Nat.le_refl _) _
              replace hC := (hC.below y2).below y3
              have z3 := z2.trans (y3.mono z2.size)
              clear y2 y3 z2 hB
              go_wp2_with fail
              refine (ZZinForce_any (some ⟨w.heap.size, 0, none⟩) 0 0 cs s1 _ hC (by omega)).mono ?_
              rintro e w4 ⟨h | ⟨k2, hk2, rfl⟩, y4⟩
              · obtain ⟨_, rfl⟩ := h
                have z4 := z3.trans (y4.mono z3.size)
                clear y4 z3 hC
                go_wp2_with fail
                go_ret
                exact ⟨rfl, z4.alloc z4.size _⟩
              · exact absurd hk2.1 (by omega)
            · have hlt1 := hk1.1
              have hz : ((k : Int) == 0) = false := by simp; omega
              rw [HV.out k1 hlt1]
              have z2 := hB.trans (y2.mono hB.size)
              have y3 : Below w2.heap.size w2 (w2.alloc (.cells #[.int .i64 ((k1 : Int) + 1), .pointer (cs k1).ptr, .int .i64 (cs k1).near, .slice (cs k1).tp (cs k1).tl (cs k1).tc] 30)) := (Below.refl _ _).alloc (Nat.le_refl _) _
              replace hC := (hC.below y2).below y3
              have z3 := z2.trans (y3.mono z2.size)
              clear y2 y3 z2 hB
              go_wp2_with fail
              refine (ZZinForce_any (some ⟨w.heap.size, 0, none⟩) k k cs s1 _ hC (by omega)).mono ?_
              rintro e w4 ⟨h | ⟨k2, hk2, rfl⟩, y4⟩
              · obtain ⟨h0, _⟩ := h
                exact absurd h0 (by omega)
              · have hlt2 := hk2.1
                rw [HV.out k2 hlt2]
                have h12 : k1 ≤ k2 := Pick.mono (leS_of_less hless) hk1 hk2
                obtain ⟨hrow, hsz⟩ := new4 y4
                obtain ⟨c0, c1, c2, c3, _⟩ := cells4 hrow
                have z4 := z3.trans (y4.mono z3.size)
                have y5 : Below w4.heap.size w4 (w4.alloc (.cells #[.int .i64 ((k2 : Int) + 1), .pointer (cs k2).ptr, .int .i64 (cs k2).near, .slice (cs k2).tp (cs k2).tl (cs k2).tc] 30)) := (Below.refl _ _).alloc (Nat.le_refl _) _
                replace hC := (hC.below y4).below y5
                have z5 := z4.trans (y5.mono z4.size)
                have P1 := hC.target hlt1
                have O1 := hk1.owes
                have O2 := hk2.owes
                have HO1 : Hid ((k1 : Int) + 1 = 1 ∨ ((cs k1).ptr.isSome = true ∧ leS (cs k1).date s2 = true)) := O1
                have HO2 : Hid ((k2 : Int) + 1 = 1 ∨ ((cs k2).ptr.isSome = true ∧ leS (cs k2).date s1 = true)) := O2
                clear y4 y5 z3 z4 hrow O1 O2
                go_wp2_with fail
                refine (picked_any ((k1 : Int) + 1) (cs k1).near (cs k1).ptr (cs k1).tp (cs k1).tl (cs k1).tc (cs k1).date s2 _ P1 HO1.out).mono ?_
                rintro e w6 ⟨rfl, y6⟩
                obtain ⟨hrow6, hsz6⟩ := new4 y6
                obtain ⟨d0, d1, d2, d3, _⟩ := cells4 hrow6
                replace hC := hC.below y6
                have z6 := z5.trans (y6.mono z5.size)
                have P2 := hC.target hlt2
                clear y6 z5 hrow6 hC P1 c0 c1 c2 c3
                go_wp2_with fail
                refine (picked_any ((k2 : Int) + 1) (cs k2).near (cs k2).ptr (cs k2).tp (cs k2).tl (cs k2).tc (cs k2).date s1 _ P2 HO2.out).mono ?_
                rintro e w7 ⟨rfl, y7⟩
                have z7 := z6.trans (y7.mono z6.size)
                clear y7 z6 P2
                go_wp2_with fail
                go_ret
                exact ⟨rfl, z7⟩
      | false =>
        go_wp2_with (at_make; refine wpList_make_full _ rfl _ _ 25 rfl w.heap.size 30 i0 _ 4 Try.underlying25 hi hz0 hz1 _ _ _ _ len rfl rfl (by omega) (by omega) hbytes hm (Nat.le_refl _) ?_; intro w1 hown hgrow)
        have hL : Lc w.heap.size len 0 w1 (fun _ => ⟨0, none, 0, none, 0, 0, ByteArray.empty⟩) := Lc.made _ hown
        have hB : Below w.heap.size w w1 := (Below.refl _ _).grown hgrow (Nat.le_refl _) (by simp)
        clear hown hgrow hbytes hi hz0 hz1 hz2
        go_loopw [10] (fun i wr => ∃ (k : Nat) (cs : Nat → Cfg), k ≤ len ∧ i = .int .i64 k ∧ Lc w.heap.size len k wr cs ∧ (∀ i, i < k → (cs i).ver = i + 1) ∧ Below w.heap.size w wr) (fun i _ => len - (intOf i).toNat)
        case atStart => exact ⟨0, _, by omega, rfl, hL, fun i hi => by omega, hB⟩
        case round =>
          clear hL hB
          obtain ⟨k, cs, hk, rfl, hL, hver, hB⟩ := hrel
          by_cases hlt : k < len
          · obtain ⟨b, off, had, hb, hc⟩ := hF (by omega)
            subst had
            obtain ⟨v0, hv0⟩ := hL.cell (k * 4) (by omega)
            have hf0 := hL.frozen (k * 4)
            obtain ⟨v1, hv1⟩ := hL.cell (k * 4 + 1) (by omega)
            have hf1 := hL.frozen (k * 4 + 1)
            have hgl := hL.lt
            have b1 := hB.setCell (p := ⟨w.heap.size, k * 4, none⟩) (Nat.le_refl _) (.int .i64 ((k : Int) + 1))
            have hc1 := (b1.cell (by exact hb)).trans (hc k hlt).1
            have hc2 := (b1.cell (by exact hb)).trans (hc k hlt).2
            generalize st k = s at hc1
            generalize dt k = x at hc2
            have HV : Hid (∀ i, i < k → (cs i).ver = i + 1) := hver
            clear hc hver
            cases s with
            | false =>
              have hL' := hL.stepNo hlt ((k : Int) + 1) x
              clear hL hB
              go_wp2_with fail
              go_roundw
              case rel => exact ⟨k + 1, _, by omega, by go_num, hL', ver_upd HV.out rfl, b1⟩
              case measure => simp [intOf]; omega
            | true =>
              have hL' := hL.stepYes hlt ((k : Int) + 1) x
              have b2 := (b1.setCell (p := ⟨w.heap.size, k * 4 + 1, none⟩) (Nat.le_refl _) (.pointer (some ⟨wr.heap.size, 0, none⟩))).alloc (by rw [size_set, size_set]; exact Nat.le_of_lt hgl) (.cells #[.string x] 9)
              clear hL hB b1
              go_wp2_with fail
              go_roundw
              case rel => exact ⟨k + 1, _, by omega, by go_num, hL', ver_upd HV.out rfl, b2⟩
              case measure => simp [intOf]; omega
          · have hkl : k = len := by omega
            subst hkl
            have hC := hL.cfgs
            have HV : Hid (∀ i, i < k → (cs i).ver = i + 1) := hver
            have hg := hL.lt
            clear hL hver hF
            go_wp2_with fail
            refine (ZZinForce_any (some ⟨w.heap.size, 0, none⟩) k k cs s1 _ hC (by omega)).mono ?_
            rintro e w2 ⟨h | ⟨k1, hk1, rfl⟩, y2⟩
            · obtain ⟨h0, rfl⟩ := h
              subst h0
              have z2 := hB.trans (y2.mono hB.size)
              have y3 : Below w2.heap.size w2 (w2.alloc (.cells #[.int .i64 0, .pointer none, .int .i64 0, .slice none 0 0] 30)) := (Below.refl _ _).alloc (Nat.le_refl _) _
              replace hC := (hC.below y2).below y3
              have z3 := z2.trans (y3.mono z2.size)
              clear y2 y3 z2 hB
              go_wp2_with fail
              refine (ZZinForce_any (some ⟨w.heap.size, 0, none⟩) 0 0 cs s2 _ hC (by omega)).mono ?_
              rintro e w4 ⟨h | ⟨k2, hk2, rfl⟩, y4⟩
              · obtain ⟨_, rfl⟩ := h
                have z4 := z3.trans (y4.mono z3.size)
                clear y4 z3 hC
                go_wp2_with fail
                go_ret
                exact ⟨rfl, z4.alloc z4.size _⟩
              · exact absurd hk2.1 (by omega)
            · have hlt1 := hk1.1
              have hz : ((k : Int) == 0) = false := by simp; omega
              rw [HV.out k1 hlt1]
              have z2 := hB.trans (y2.mono hB.size)
              have y3 : Below w2.heap.size w2 (w2.alloc (.cells #[.int .i64 ((k1 : Int) + 1), .pointer (cs k1).ptr, .int .i64 (cs k1).near, .slice (cs k1).tp (cs k1).tl (cs k1).tc] 30)) := (Below.refl _ _).alloc (Nat.le_refl _) _
              replace hC := (hC.below y2).below y3
              have z3 := z2.trans (y3.mono z2.size)
              clear y2 y3 z2 hB
              go_wp2_with fail
              refine (ZZinForce_any (some ⟨w.heap.size, 0, none⟩) k k cs s2 _ hC (by omega)).mono ?_
              rintro e w4 ⟨h | ⟨k2, hk2, rfl⟩, y4⟩
              · obtain ⟨h0, _⟩ := h
                exact absurd h0 (by omega)
              · have hlt2 := hk2.1
                rw [HV.out k2 hlt2]
                have h12 : k1 ≤ k2 := Pick.mono (leS_of_not hless) hk1 hk2
                obtain ⟨hrow, hsz⟩ := new4 y4
                obtain ⟨c0, c1, c2, c3, _⟩ := cells4 hrow
                have z4 := z3.trans (y4.mono z3.size)
                have y5 : Below w4.heap.size w4 (w4.alloc (.cells #[.int .i64 ((k2 : Int) + 1), .pointer (cs k2).ptr, .int .i64 (cs k2).near, .slice (cs k2).tp (cs k2).tl (cs k2).tc] 30)) := (Below.refl _ _).alloc (Nat.le_refl _) _
                replace hC := (hC.below y4).below y5
                have z5 := z4.trans (y5.mono z4.size)
                have P1 := hC.target hlt1
                have O1 := hk1.owes
                have O2 := hk2.owes
                have HO1 : Hid ((k1 : Int) + 1 = 1 ∨ ((cs k1).ptr.isSome = true ∧ leS (cs k1).date s1 = true)) := O1
                have HO2 : Hid ((k2 : Int) + 1 = 1 ∨ ((cs k2).ptr.isSome = true ∧ leS (cs k2).date s2 = true)) := O2
                clear y4 y5 z3 z4 hrow O1 O2
                go_wp2_with fail
                refine (picked_any ((k1 : Int) + 1) (cs k1).near (cs k1).ptr (cs k1).tp (cs k1).tl (cs k1).tc (cs k1).date s1 _ P1 HO1.out).mono ?_
                rintro e w6 ⟨rfl, y6⟩
                obtain ⟨hrow6, hsz6⟩ := new4 y6
                obtain ⟨d0, d1, d2, d3, _⟩ := cells4 hrow6
                replace hC := hC.below y6
                have z6 := z5.trans (y6.mono z5.size)
                have P2 := hC.target hlt2
                clear y6 z5 hrow6 hC P1 c0 c1 c2 c3
                go_wp2_with fail
                refine (picked_any ((k2 : Int) + 1) (cs k2).near (cs k2).ptr (cs k2).tp (cs k2).tl (cs k2).tc (cs k2).date s2 _ P2 HO2.out).mono ?_
                rintro e w7 ⟨rfl, y7⟩
                have z7 := z6.trans (y7.mono z6.size)
                clear y7 z6 P2
                go_wp2_with fail
                go_ret
                exact ⟨rfl, z7⟩

end Go.Proofs.Qxb6602821a
