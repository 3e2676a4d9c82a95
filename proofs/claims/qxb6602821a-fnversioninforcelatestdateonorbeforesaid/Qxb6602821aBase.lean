import Derived.Test.Qxb6602821aRows
import Derived.WalkKit
import Derived.WalkSpells
import Derived.WalkLawsBesides
import Derived.Deep.QuietTactic
import Derived.BigQuiet
namespace Go.Proofs.Qxb6602821a
open Go.RowKit

/-! ### strings are in one order -/
theorem less_trans : ∀ (x y z : List UInt8), Op.bytesLess x y = true → Op.bytesLess y z = true → Op.bytesLess x z = true
  | _, _, [], _, h => by cases h' : (‹List UInt8›) <;> simp [Op.bytesLess] at h
  | [], _, c :: z, _, _ => by simp [Op.bytesLess]
  | a :: x, [], c :: z, h, _ => by simp [Op.bytesLess] at h
  | a :: x, b :: y, c :: z, h1, h2 => by
    simp only [Op.bytesLess, Bool.or_eq_true, decide_eq_true_eq, Bool.and_eq_true, beq_iff_eq] at h1 h2 ⊢
    rcases h1 with h1 | ⟨rfl, h1⟩
    · rcases h2 with h2 | ⟨rfl, h2⟩
      · exact .inl (UInt8.lt_trans h1 h2)
      · exact .inl h1
    · rcases h2 with h2 | ⟨rfl, h2⟩
      · exact .inl h2
      · exact .inr ⟨rfl, less_trans x y z h1 h2⟩

theorem less_total : ∀ (x y : List UInt8), Op.bytesLess x y = false → (Op.bytesLess y x || y == x) = true
  | x, [], _ => by cases x <;> simp [Op.bytesLess]
  | [], b :: y, h => by simp [Op.bytesLess] at h
  | a :: x, b :: y, h => by
    simp only [Op.bytesLess, Bool.or_eq_false_iff, decide_eq_false_iff_not, Bool.and_eq_false_iff, beq_eq_false_iff_ne] at h
    obtain ⟨h1, h2⟩ := h
    by_cases e : a = b
    · subst e
      rcases h2 with h2 | h2
      · exact absurd rfl h2
      · have := less_total x y h2
        simp only [Bool.or_eq_true, beq_iff_eq] at this
        simp only [Op.bytesLess, Bool.or_eq_true, decide_eq_true_eq, Bool.and_eq_true, beq_iff_eq, List.cons.injEq, true_and]
        rcases this with t | t
        · exact .inl (.inr t)
        · exact .inr t
    · have hlt : b < a := by
        rcases UInt8.lt_or_lt_of_ne e with t | t
        · exact absurd t h1
        · exact t
      simp [Op.bytesLess, hlt]

/-- 'a <= b', as the walk writes it. -/
def leS (a b : ByteArray) : Bool := Op.bytesLess a.toList b.toList || a.toList == b.toList

theorem leS_of_not {a b : ByteArray} (h : Op.bytesLess b.toList a.toList = false) : leS a b = true := less_total _ _ h
theorem leS_of_less {a b : ByteArray} (h : Op.bytesLess a.toList b.toList = true) : leS a b = true := by simp [leS, h]
theorem leS_refl (a : ByteArray) : leS a a = true := by simp [leS]
theorem leS_trans {a b c : ByteArray} (h1 : leS a b = true) (h2 : leS b c = true) : leS a c = true := by
  simp only [leS, Bool.or_eq_true, beq_iff_eq] at h1 h2 ⊢
  rcases h1 with h1 | h1
  · rcases h2 with h2 | h2
    · exact .inl (less_trans _ _ _ h1 h2)
    · exact .inl (h2 ▸ h1)
  · rw [h1]; exact h2

/-! ### a row of configs -/
/-- One config as its four cells hold it, and the date that its pointer leads to (where it is not nil). -/
structure Cfg where
  ver : Int
  ptr : Option Addr
  near : Int
  tp : Option Addr
  tl : Nat
  tc : Nat
  date : ByteArray

/-- What a walk is told of a slice of configs. -/
def Cfgs (w : World) (ao : Option Addr) (len : Nat) (cs : Nat → Cfg) : Prop :=
  0 < len → ∃ b off, ao = some ⟨b, off, none⟩ ∧ b < w.heap.size ∧ ∀ i, i < len →
    w.cell? ⟨b, off + i * 4, none⟩ = some (.int .i64 (cs i).ver) ∧ w.cell? ⟨b, off + i * 4 + 1, none⟩ = some (.pointer (cs i).ptr) ∧
    w.cell? ⟨b, off + i * 4 + 2, none⟩ = some (.int .i64 (cs i).near) ∧ w.cell? ⟨b, off + i * 4 + 3, none⟩ = some (.slice (cs i).tp (cs i).tl (cs i).tc) ∧
    ∀ ad, (cs i).ptr = some ad → ∃ b' off', ad = ⟨b', off', none⟩ ∧ b' < w.heap.size ∧ w.cell? ⟨b', off', none⟩ = some (.string (cs i).date)

theorem Cfgs.below {w w1 : World} {ao : Option Addr} {len : Nat} {cs : Nat → Cfg} (h : Cfgs w ao len cs) (hb : Below w.heap.size w w1) : Cfgs w1 ao len cs := by
  intro h0
  obtain ⟨b, off, h1, h2, h3⟩ := h h0
  refine ⟨b, off, h1, Nat.lt_of_lt_of_le h2 hb.size, fun i hi => ?_⟩
  obtain ⟨e0, e1, e2, e3, e4⟩ := h3 i hi
  refine ⟨(hb.cell (by exact h2)).trans e0, (hb.cell (by exact h2)).trans e1, (hb.cell (by exact h2)).trans e2, (hb.cell (by exact h2)).trans e3, fun ad had => ?_⟩
  obtain ⟨b', off', f1, f2, f3⟩ := e4 ad had
  exact ⟨b', off', f1, Nat.lt_of_lt_of_le f2 hb.size, (hb.cell (by exact f2)).trans f3⟩

/-- Is the config in force on the date d, by its own date? -/
def hit (c : Cfg) (d : ByteArray) : Bool := c.ptr.isSome && leS c.date d

/-- From place lo on (up to len) no config is in force by its own date. -/
def NoHit (cs : Nat → Cfg) (d : ByteArray) (lo len : Nat) : Prop := ∀ j, lo ≤ j → j < len → hit (cs j) d = false

/-- The place that versionInForce picks (of len configs, len > 0). -/
def Pick (cs : Nat → Cfg) (len : Nat) (d : ByteArray) (k : Nat) : Prop := k < len ∧ (k = 0 ∨ hit (cs k) d = true) ∧ NoHit cs d (k + 1) len

theorem NoHit.down {cs : Nat → Cfg} {d : ByteArray} {k len : Nat} (h : NoHit cs d (k + 1) len) (hk : hit (cs k) d = false) : NoHit cs d k len := fun j h1 h2 => by
  by_cases e : j = k
  · rw [e]; exact hk
  · exact h j (by omega) h2

theorem Pick.unique {cs : Nat → Cfg} {len : Nat} {d : ByteArray} {k k' : Nat} (h : Pick cs len d k) (h' : Pick cs len d k') : k = k' := by
  obtain ⟨h1, h2, h3⟩ := h
  obtain ⟨g1, g2, g3⟩ := h'
  by_cases e : k < k'
  · rcases g2 with g2 | g2
    · omega
    · rw [h3 k' (by omega) g1] at g2; cases g2
  · by_cases e' : k' < k
    · rcases h2 with h2 | h2
      · omega
      · rw [g3 k (by omega) h1] at h2; cases h2
    · omega

/-- A later date picks no earlier place. -/
theorem Pick.mono {cs : Nat → Cfg} {len : Nat} {d d' : ByteArray} {k k' : Nat} (hd : leS d d' = true) (h : Pick cs len d k) (h' : Pick cs len d' k') : k ≤ k' := by
  obtain ⟨h1, h2, h3⟩ := h
  obtain ⟨g1, g2, g3⟩ := h'
  by_cases e : k' < k
  · rcases h2 with h2 | h2
    · omega
    · have := g3 k (by omega) h1
      simp only [hit, Bool.and_eq_true] at h2
      simp only [hit, h2.1, Bool.true_and] at this
      rw [leS_trans h2.2 hd] at this
      cases this
  · omega

/-- What versionInForce answers. -/
def RetPick (cs : Nat → Cfg) (len : Nat) (d : ByteArray) (e : Ending) : Prop :=
  (len = 0 ∧ e = .returned (.tuple #[.agg #[.int .i64 0, .pointer none, .int .i64 0, .slice none 0 0], .bool false])) ∨
  ∃ k, Pick cs len d k ∧ e = .returned (.tuple #[.agg #[.int .i64 (cs k).ver, .pointer (cs k).ptr, .int .i64 (cs k).near, .slice (cs k).tp (cs k).tl (cs k).tc], .bool true])

set_option maxRecDepth 100000 in
set_option maxHeartbeats 800000 in
theorem inForce_any (ao : Option Addr) (len cap : Nat) (cs : Nat → Cfg) (d : ByteArray) (w : World) (hC : Cfgs w ao len cs) (hm : len ≤ 1000000000) :
    Calls Try.prog 14 #[.slice ao len cap, .string d] w fun e w' => RetPick cs len d e ∧ Below w.heap.size w w' := by
  by_cases h0 : len = 0
  · subst h0
    go_enter Try.func14, Try.ntmps14
    go_wp2
    exact bodyPost_ret (v := .tuple #[.agg #[.int .i64 0, .pointer none, .int .i64 0, .slice none 0 0], .bool false]) (by simp [results, Try.results14, go_sem]) rfl ⟨.inl ⟨rfl, rfl⟩, (Below.refl _ _).alloc (Nat.le_refl _) _⟩
  · obtain ⟨b, off, rfl, hb, hc⟩ := hC (by omega)
    have hz : ((len : Int) == 0) = false := by simp; omega
    have hal : Below w.heap.size w (w.alloc (.cells #[.int .i64 0, .pointer none, .int .i64 0, .slice none 0 0] 30)) := (Below.refl _ _).alloc (Nat.le_refl _) _
    go_enter Try.func14, Try.ntmps14
    go_wp2
    go_loop [6] (fun i => ∃ n : Int, i = .int .i64 n ∧ 0 ≤ n ∧ n < len ∧ NoHit cs d (n + 1).toNat len) (fun i => (intOf i).toNat)
    case atStart => exact ⟨_, rfl, by omega, by omega, fun j h1 h2 => by omega⟩
    case round =>
      obtain ⟨n, rfl, hn0, hn1, hno⟩ := hrel
      obtain ⟨m, rfl⟩ := Int.eq_ofNat_of_zero_le hn0
      by_cases hpos : 0 < m
      · obtain ⟨q0, q1, q2, q3, q4⟩ := hc m (by omega)
        have hno' : NoHit cs d (m + 1) len := by rw [show ((m : Int) + 1).toNat = m + 1 from by omega] at hno; exact hno
        obtain ⟨c, hcm⟩ : ∃ c, c = cs m := ⟨_, rfl⟩
        rw [← hcm] at q0 q1 q2 q3 q4
        have HC : Hid (c = cs m) := hcm
        clear hc hno hcm
        obtain ⟨cv, cp, cn, tp, tl, tc, cd⟩ := c
        cases cp with
        | none =>
          go_wp2
          go_round
          case rel => exact ⟨_, rfl, by omega, by omega, by rw [show ((m : Int) - 1 + 1).toNat = m from by omega]; exact hno'.down (by rw [← HC.out]; rfl)⟩
          case measure => simp [intOf]; omega
        | some ad =>
          obtain ⟨b', off', rfl, hb', hd⟩ := q4 ad rfl
          go_wp2
          · have ht : Op.bytesLess cd.toList d.toList = true ∨ (cd.toList == d.toList) = true := by assumption
            have hh : hit (cs m) d = true := by rw [← HC.out]; simpa [hit, leS] using ht
            refine bodyPost_ret (v := .tuple #[.agg #[.int .i64 cv, .pointer (some ⟨b', off', none⟩), .int .i64 cn, .slice tp tl tc], .bool true]) (by simp [results, Try.results14, go_sem]) rfl ⟨.inr ⟨m, ⟨by omega, .inr hh, hno'⟩, ?_⟩, (Below.refl _ _).alloc (Nat.le_refl _) _⟩
            rw [← HC.out]
          · have ht : Op.bytesLess cd.toList d.toList = false ∧ (cd.toList == d.toList) = false := by assumption
            have hh : hit (cs m) d = false := by rw [← HC.out]; simpa [hit, leS] using ht
            go_round
            case rel => exact ⟨_, rfl, by omega, by omega, by rw [show ((m : Int) - 1 + 1).toNat = m from by omega]; exact hno'.down hh⟩
            case measure => simp [intOf]; omega
      · have hm0 : m = 0 := by omega
        subst hm0
        obtain ⟨q0, q1, q2, q3, _⟩ := hc 0 (by omega)
        simp only [Nat.zero_mul, Nat.add_zero] at q0 q1 q2 q3
        clear hc
        go_wp2
        exact bodyPost_ret (v := .tuple #[.agg #[.int .i64 (cs 0).ver, .pointer (cs 0).ptr, .int .i64 (cs 0).near, .slice (cs 0).tp (cs 0).tl (cs 0).tc], .bool true]) (by simp [results, Try.results14, go_sem]) rfl ⟨.inr ⟨0, ⟨by omega, .inl rfl, hno⟩, rfl⟩, (Below.refl _ _).alloc (Nat.le_refl _) _⟩

/-- A block of four cells that the call has just laid, in a later world. -/
theorem new4 {w w1 : World} {a b c d : Value} {t : TypeId} (hb : Below (w.alloc (.cells #[a, b, c, d] t)).heap.size (w.alloc (.cells #[a, b, c, d] t)) w1) :
    w1.heap[w.heap.size]? = some (.cells #[a, b, c, d] t (0, 0)) ∧ w.heap.size < w1.heap.size := by
  have h1 : w.heap.size < (w.alloc (.cells #[a, b, c, d] t)).heap.size := by simp
  exact ⟨(hb.block _ h1).trans (heap_alloc_new w _), Nat.lt_of_lt_of_le h1 hb.size⟩

theorem cells4 {w1 : World} {g : Nat} {a b c d : Value} {t : TypeId} (h : w1.heap[g]? = some (.cells #[a, b, c, d] t (0, 0))) :
    w1.cell? ⟨g, 0, none⟩ = some a ∧ w1.cell? ⟨g, 1, none⟩ = some b ∧ w1.cell? ⟨g, 2, none⟩ = some c ∧ w1.cell? ⟨g, 3, none⟩ = some d ∧
    w1.frozen? ⟨g, 0, none⟩ = false ∧ w1.frozen? ⟨g, 1, none⟩ = false ∧ w1.frozen? ⟨g, 2, none⟩ = false ∧ w1.frozen? ⟨g, 3, none⟩ = false :=
  ⟨by rw [cell_of_row w1 g 0 _ t (0, 0) h]; rfl, by rw [cell_of_row w1 g 1 _ t (0, 0) h]; rfl, by rw [cell_of_row w1 g 2 _ t (0, 0) h]; rfl, by rw [cell_of_row w1 g 3 _ t (0, 0) h]; rfl,
    frozen_of_row w1 g 0 _ t h, frozen_of_row w1 g 1 _ t h, frozen_of_row w1 g 2 _ t h, frozen_of_row w1 g 3 _ t h⟩

/-- Four cells stored one after the other: each reads as it was stored. -/
theorem set4 {w1 : World} {g : Nat} {a b c d : Value} (h0 : w1.cell? ⟨g, 0, none⟩ = some a) (h1 : w1.cell? ⟨g, 1, none⟩ = some b) (h2 : w1.cell? ⟨g, 2, none⟩ = some c) (h3 : w1.cell? ⟨g, 3, none⟩ = some d) (x y z u : Value) :
    (w1.setCell ⟨g, 0, none⟩ x).cell? ⟨g, 0, none⟩ = some x ∧ ((w1.setCell ⟨g, 0, none⟩ x).setCell ⟨g, 1, none⟩ y).cell? ⟨g, 1, none⟩ = some y ∧
    (((w1.setCell ⟨g, 0, none⟩ x).setCell ⟨g, 1, none⟩ y).setCell ⟨g, 2, none⟩ z).cell? ⟨g, 2, none⟩ = some z ∧
    ((((w1.setCell ⟨g, 0, none⟩ x).setCell ⟨g, 1, none⟩ y).setCell ⟨g, 2, none⟩ z).setCell ⟨g, 3, none⟩ u).cell? ⟨g, 3, none⟩ = some u := by
  have o : ∀ (W : World) (i j : Nat) (v : Value), i ≠ j → (W.setCell ⟨g, i, none⟩ v).cell? ⟨g, j, none⟩ = W.cell? ⟨g, j, none⟩ := fun W i j v hij => World.cell?_setCell_other W _ _ v (fun e => hij (congrArg Addr.off e))
  refine ⟨World.cell?_setCell_same _ _ _ h0, World.cell?_setCell_same _ _ _ (u := b) ?_, World.cell?_setCell_same _ _ _ (u := c) ?_, World.cell?_setCell_same _ _ _ (u := d) ?_⟩
  · rw [o _ _ _ _ (by decide)]; exact h1
  · rw [o _ _ _ _ (by decide), o _ _ _ _ (by decide)]; exact h2
  · rw [o _ _ _ _ (by decide), o _ _ _ _ (by decide), o _ _ _ _ (by decide)]; exact h3

set_option maxRecDepth 100000 in
set_option maxHeartbeats 800000 in
theorem ZZinForce_any (ao : Option Addr) (len cap : Nat) (cs : Nat → Cfg) (d : ByteArray) (w : World) (hC : Cfgs w ao len cs) (hm : len ≤ 1000000000) :
    Calls Try.prog 9 #[.slice ao len cap, .string d] w fun e w' => RetPick cs len d e ∧ Below w.heap.size w w' := by
  have hal : Below w.heap.size w (w.alloc (.cells #[.int .i64 0, .pointer none, .int .i64 0, .slice none 0 0] 30)) := (Below.refl _ _).alloc (Nat.le_refl _) _
  go_enter Try.func9, Try.ntmps9
  go_wp2_with fail
  refine (inForce_any ao len cap cs d _ (hC.below hal) hm).mono ?_
  rintro e w1 ⟨h | ⟨k, hk, rfl⟩, hb⟩
  · obtain ⟨h0, rfl⟩ := h
    have hb' := hal.trans (hb.mono (by simp))
    obtain ⟨c0, c1, c2, c3, f0, f1, f2, f3⟩ := cells4 (new4 hb).1
    obtain ⟨e0, e1, e2, e3⟩ := set4 c0 c1 c2 c3 (.int .i64 0) (.pointer none) (.int .i64 0) (.slice none 0 0)
    clear hb hal hC
    go_wp2
    exact bodyPost_ret (v := .tuple #[.agg #[.int .i64 0, .pointer none, .int .i64 0, .slice none 0 0], .bool false]) (by simp [results, Try.results9, go_sem, e0, e1, e2, e3]) rfl ⟨.inl ⟨h0, rfl⟩, (((hb'.setCell (Nat.le_refl _) _).setCell (Nat.le_refl _) _).setCell (Nat.le_refl _) _).setCell (Nat.le_refl _) _⟩
  · have hb' := hal.trans (hb.mono (by simp))
    obtain ⟨c0, c1, c2, c3, f0, f1, f2, f3⟩ := cells4 (new4 hb).1
    obtain ⟨e0, e1, e2, e3⟩ := set4 c0 c1 c2 c3 (.int .i64 (cs k).ver) (.pointer (cs k).ptr) (.int .i64 (cs k).near) (.slice (cs k).tp (cs k).tl (cs k).tc)
    clear hb hal hC
    go_wp2
    exact bodyPost_ret (v := .tuple #[.agg #[.int .i64 (cs k).ver, .pointer (cs k).ptr, .int .i64 (cs k).near, .slice (cs k).tp (cs k).tl (cs k).tc], .bool true]) (by simp [results, Try.results9, go_sem, e0, e1, e2, e3]) rfl ⟨.inr ⟨k, hk, rfl⟩, (((hb'.setCell (Nat.le_refl _) _).setCell (Nat.le_refl _) _).setCell (Nat.le_refl _) _).setCell (Nat.le_refl _) _⟩

end Go.Proofs.Qxb6602821a
