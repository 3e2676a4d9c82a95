import Derived.Test.Qxb6602716aRows
import Derived.WalkKit
import Derived.WalkSpells
import Derived.WalkLawsBesides
import Derived.Deep.QuietTactic
import Derived.BigQuiet
namespace Go.Proofs.Qxb6602716a
open Go.RowKit

/-- What a walk is told of a slice of strings: its elements are the strings ss, in the world w. -/
def Strs (w : World) (ao : Option Addr) (len : Nat) (ss : List ByteArray) : Prop :=
  ss.length = len ∧ (0 < len → ∃ b off, ao = some ⟨b, off, none⟩ ∧ b < w.heap.size ∧ ∀ i, i < len → w.cell? ⟨b, off + i, none⟩ = some (.string (ss.getD i ByteArray.empty)))

/-- It returned a bool. -/
def SomeBool (e : Ending) : Prop := ∃ r, e = .returned (.bool r)

theorem Strs.below {w w1 : World} {ao : Option Addr} {len : Nat} {ss : List ByteArray} (h : Strs w ao len ss) (hb : Below w.heap.size w w1) : Strs w1 ao len ss := by
  refine ⟨h.1, fun h0 => ?_⟩
  obtain ⟨b, off, h1, h2, h3⟩ := h.2 h0
  exact ⟨b, off, h1, Nat.lt_of_lt_of_le h2 hb.size, fun i hi => (hb.cell (by exact h2)).trans (h3 i hi)⟩

/-- How many bytes the strings hold together. -/
def tot : List ByteArray → Nat
  | [] => 0
  | s :: r => s.size + tot r

theorem tot_take (ss : List ByteArray) (k : Nat) (hk : k < ss.length) : tot (ss.take (k + 1)) = tot (ss.take k) + (ss.getD k ByteArray.empty).size := by
  induction ss generalizing k with
  | nil => simp at hk
  | cons s r ih =>
    cases k with
    | zero => simp [tot]
    | succ k =>
      simp only [List.length_cons] at hk
      have := ih k (by omega)
      simp only [List.take_succ_cons, tot, List.getD_cons_succ] at this ⊢
      omega

/-- What zzFieldBytes answers: a number from which the fields' sum can be bounded. -/
def RetSum (ss : List ByteArray) (len : Nat) (e : Ending) : Prop := ∃ t : Int, e = .returned (.int .i64 t) ∧ 0 ≤ t ∧ t ≤ 2097152 ∧ (t ≤ 1048576 → 16 * len + tot ss ≤ 1048576)

theorem RetSum.mk {ss : List ByteArray} {len : Nat} (t : Int) (h0 : 0 ≤ t) (h1 : t ≤ 2097152) (h2 : t ≤ 1048576 → 16 * len + tot ss ≤ 1048576) : RetSum ss len (.returned (.int .i64 t)) := ⟨t, rfl, h0, h1, h2⟩

set_option maxHeartbeats 400000 in
theorem fieldBytes_any (ao : Option Addr) (len cap : Nat) (ss : List ByteArray) (w : World) (hS : Strs w ao len ss) (hm : len ≤ 65536) :
    Calls Try.prog 15 #[.slice ao len cap] w fun e w' => RetSum ss len e ∧ w' = w := by
  go_enter Try.func15, Try.ntmps15
  go_wp2
  go_loop [3, 4] (fun n i => ∃ k m : Nat, k ≤ len ∧ i = .int .i64 k ∧ n = .int .i64 m ∧ Hid (m = 16 * len + tot (ss.take k)) ∧ m ≤ 1048576) (fun _ i => len - (intOf i).toNat)
  case atStart => exact ⟨0, 16 * len, by omega, rfl, by go_num, by simp [Hid, tot], by omega⟩
  case round =>
    obtain ⟨k, m, hk, rfl, rfl, HM, hm1⟩ := hrel
    by_cases hlt : k < len
    · obtain ⟨b, off, had, hb, hc⟩ := hS.2 (by omega)
      subst had
      have hck := hc k hlt
      have HT : Hid (tot (ss.take (k + 1)) = tot (ss.take k) + (ss.getD k ByteArray.empty).size) := tot_take ss k (by rw [hS.1]; exact hlt)
      obtain ⟨x, hx⟩ : ∃ x, x = ss.getD k ByteArray.empty := ⟨_, rfl⟩
      rw [← hx] at hck HT
      clear hc hx
      go_wp2
      · go_ret
        exact ⟨RetSum.mk 2097152 (by omega) (by omega) (by omega), rfl⟩
      · go_ret
        exact ⟨RetSum.mk (m + x.size) (by omega) (by omega) (by omega), rfl⟩
      · go_round
        case rel => exact ⟨k + 1, m + x.size, by omega, by go_num, by go_num, by have h1 := HM.out; have h2 := HT.out; show _ = _; omega, by omega⟩
        case measure => simp [intOf]; omega
    · have hkl : k = len := by omega
      subst hkl
      have hts : ss.take k = ss := List.take_of_length_le (by rw [hS.1]; omega)
      go_wp2
      go_ret
      exact ⟨RetSum.mk m (by omega) (by omega) (fun _ => by have h1 := HM.out; rw [hts] at h1; omega), rfl⟩

/-- It returned whether the two lists are one. -/
def RetSame (p q : List ByteArray) (e : Ending) : Prop := ∃ r, e = .returned (.bool r) ∧ (r = true ↔ p = q)

theorem RetSame.yes {p q : List ByteArray} (h : p = q) : RetSame p q (.returned (.bool true)) := ⟨true, rfl, by simp [h]⟩
theorem RetSame.no {p q : List ByteArray} (h : ¬ p = q) : RetSame p q (.returned (.bool false)) := ⟨false, rfl, by simp [h]⟩

theorem bytes_ext {x y : ByteArray} : (x.toList == y.toList) = true ↔ x = y := by
  rw [ByteArray.toList_eq, ByteArray.toList_eq]
  cases x; cases y
  simp

/-- The first k strings of the two lists are the same. -/
def Agrees (p q : List ByteArray) (k : Nat) : Prop := ∀ j, j < k → p.getD j ByteArray.empty = q.getD j ByteArray.empty

theorem Agrees.all {p q : List ByteArray} (hl : p.length = q.length) (h : Agrees p q p.length) : p = q := by
  apply List.ext_getElem hl
  intro i h1 h2
  have := h i h1
  simpa [List.getD_eq_getElem?_getD, List.getElem?_eq_getElem h1, List.getElem?_eq_getElem h2] using this

theorem Agrees.step {p q : List ByteArray} {k : Nat} (h : Agrees p q k) (he : p.getD k ByteArray.empty = q.getD k ByteArray.empty) : Agrees p q (k + 1) := fun j hj => by
  by_cases e : j = k
  · rw [e]; exact he
  · exact h j (by omega)

set_option maxRecDepth 100000 in
set_option maxHeartbeats 400000 in
theorem sameFields_any (ao bo : Option Addr) (la lb ca cb : Nat) (p q : List ByteArray) (w : World) (hp : Strs w ao la p) (hq : Strs w bo lb q) (hm : la ≤ maxLen) :
    Calls Try.prog 23 #[.slice ao la ca, .slice bo lb cb] w fun e w' => RetSame p q e ∧ Below w.heap.size w w' := by
  unfold maxLen at hm
  by_cases hl : la = lb
  · subst hl
    go_enter Try.func23, Try.ntmps23
    go_wp2
    go_loopw [13] (fun i wr => ∃ k : Nat, k ≤ la ∧ i = .int .i64 k ∧ Agrees p q k ∧ Below w.heap.size w wr) (fun i _ => la - (intOf i).toNat)
    case atStart => exact ⟨0, by omega, rfl, fun j hj => by omega, Below.refl _ _⟩
    case round =>
      obtain ⟨k, hk, rfl, hag, hB⟩ := hrel
      by_cases hlt : k < la
      · obtain ⟨b, off, had, hb, hc⟩ := hp.2 (by omega)
        obtain ⟨b', off', had', hb', hc'⟩ := hq.2 (by omega)
        subst had
        subst had'
        have hck := (hB.cell (by exact hb)).trans (hc k hlt)
        have hck' := (hB.cell (by exact hb')).trans (hc' k hlt)
        obtain ⟨x, hx⟩ : ∃ x, x = p.getD k ByteArray.empty := ⟨_, rfl⟩
        obtain ⟨y, hy⟩ : ∃ y, y = q.getD k ByteArray.empty := ⟨_, rfl⟩
        rw [← hx] at hck
        rw [← hy] at hck'
        have HX : Hid (x = p.getD k ByteArray.empty) := hx
        have HY : Hid (y = q.getD k ByteArray.empty) := hy
        have hkI : (k : Int) < (la : Int) := by omega
        clear hc hc' hx hy
        go_wp2
        go_quiet (fail)
        go_wp2
        · have ht : (!x.toList == y.toList) = true := by assumption
          go_ret
          refine ⟨RetSame.no (fun h => ?_), below_drewN hB _⟩
          have e : x = y := by rw [HX.out, HY.out, h]
          rw [e] at ht
          simp at ht
        · have ht : (!x.toList == y.toList) = false := by assumption
          have e : x = y := bytes_ext.1 (by simpa using ht)
          go_roundw
          case rel => exact ⟨k + 1, by omega, by go_num, hag.step (by rw [← HX.out, ← HY.out]; exact e), below_drewN hB _⟩
          case measure => simp [intOf]; omega
      · have hkl : k = la := by omega
        subst hkl
        go_wp2
        go_ret
        exact ⟨RetSame.yes (Agrees.all (hp.1.trans hq.1.symm) (by rw [hp.1]; exact hag)), hB⟩
  · have hd : ((la : Int) != (lb : Int)) = true := by rw [bne_iff_ne]; omega
    go_enter Try.func23, Try.ntmps23
    go_wp2
    go_ret
    exact ⟨RetSame.no (fun h => hl (by rw [← hp.1, ← hq.1, h])), Below.refl _ _⟩

set_option maxHeartbeats 400000 in
theorem ZZSame_any (ao bo : Option Addr) (la lb ca cb : Nat) (p q : List ByteArray) (w : World) (hp : Strs w ao la p) (hq : Strs w bo lb q) (hm : la ≤ maxLen) :
    Calls Try.prog 17 #[.slice ao la ca, .slice bo lb cb] w fun e w' => RetSame p q e ∧ Below w.heap.size w w' := by
  go_enter Try.func17, Try.ntmps17
  go_wp2_with (go_at_call 23; refine (sameFields_any ao bo la lb ca cb p q _ hp hq hm).mono ?_; rintro e w' ⟨⟨r, rfl, hr⟩, hb⟩)
  go_ret
  exact ⟨⟨_, rfl, by assumption⟩, by assumption⟩

theorem Try.info9 : (Try.prog.info? 9).map (fun i => (i.zero, i.size, i.bytes)) = some (some (.string ByteArray.empty), 1, 16) := by kernel_rfl

/-- A row of N cells of the call's own: the first k hold the first k strings of ss, the rest the empty string. -/
def Filled (B g N : Nat) (ss : List ByteArray) (k : Nat) (w : World) : Prop :=
  ∃ xs, w.ownsRow B 9 1 (.slice (some ⟨g, 0, none⟩) N N) N xs ∧ ∀ j, j < N → xs[j]? = some (.string (if j < k then ss.getD j ByteArray.empty else ByteArray.empty))

theorem Filled.made {B g N : Nat} {w : World} (ss : List ByteArray) (h : w.ownsRow B 9 1 (.slice (some ⟨g, 0, none⟩) N N) N (madeCells (Value.string ByteArray.empty).cells (N * 1)).toList) : Filled B g N ss 0 w := by
  refine ⟨_, h, fun j hj => ?_⟩
  have e : (Value.string ByteArray.empty).cells = #[.string ByteArray.empty] := rfl
  rw [e, toList_madeCells_one, List.getElem?_replicate, if_pos (by omega)]
  simp

theorem Filled.cell {B g N ss k w} (h : Filled B g N ss k w) (j : Nat) (hj : j < N) : ∃ v, w.cell? ⟨g, j, none⟩ = some v := by
  obtain ⟨xs, ho, hx⟩ := h
  exact ⟨_, (ho.cellAt j (by omega)).trans (hx j hj)⟩
theorem Filled.frozen {B g N ss k w} (h : Filled B g N ss k w) (j : Nat) : w.frozen? ⟨g, j, none⟩ = false := by
  obtain ⟨xs, ho, _⟩ := h
  exact ho.frozenAt j
theorem Filled.step {B g N ss k w} (h : Filled B g N ss k w) (hk : k < N) : Filled B g N ss (k + 1) (w.setCell ⟨g, k, none⟩ (.string (ss.getD k ByteArray.empty))) := by
  obtain ⟨xs, ho, hx⟩ := h
  refine ⟨_, (ho.stored k _).1, fun j hj => ?_⟩
  have hl : xs.length = N * 1 := ho.1
  by_cases e : j = k
  · subst e; rw [List.getElem?_set_self (by omega), if_pos (by omega)]
  · rw [List.getElem?_set_ne (by omega), hx j hj]
    by_cases h1 : j < k
    · rw [if_pos h1, if_pos (by omega)]
    · rw [if_neg h1, if_neg (by omega)]
/-- A store into another block leaves the row as it was. -/
theorem Filled.other {B g N ss k w} (h : Filled B g N ss k w) {g' j : Nat} (hg : g ≠ g') (u : Value) : Filled B g N ss k (w.setCell ⟨g', j, none⟩ u) := by
  obtain ⟨xs, ho, hx⟩ := h
  exact ⟨xs, ownsRow_setCell_other ho (by simpa [Value.ownBlock] using hg) u, hx⟩
theorem Filled.grown {B g N ss k w w'} (h : Filled B g N ss k w) (hg : w.grownBy w' none) : Filled B g N ss k w' := by
  obtain ⟨xs, ho, hx⟩ := h
  exact ⟨xs, ho.kept hg (by simp [Value.ownBlock]), hx⟩
theorem Filled.lt {B g N ss k w} (h : Filled B g N ss k w) : g < w.heap.size := by
  obtain ⟨xs, ho, _⟩ := h
  rcases ho.2 with ⟨h', _⟩ | ⟨g', cap', cur, h', _, hg, _⟩
  · simp at h'
  · simp only [Value.slice.injEq, Option.some.injEq, Addr.mk.injEq, and_true, true_and] at h'
    obtain ⟨rfl, rfl⟩ := h'
    exact (Array.getElem?_eq_some_iff.1 hg).1
theorem Filled.strs {B g N ss w} {tt : List ByteArray} (h : Filled B g N ss ss.length w) (hl : tt.length = N) (ht : ∀ j, j < N → tt.getD j ByteArray.empty = ss.getD j ByteArray.empty) : Strs w (some ⟨g, 0, none⟩) N tt := by
  have hlt := h.lt
  obtain ⟨xs, ho, hx⟩ := h
  refine ⟨hl, fun _ => ⟨g, 0, rfl, hlt, fun i hi => ?_⟩⟩
  rw [Nat.zero_add, ho.cellAt i (by omega), hx i hi, ht i hi]
  by_cases h1 : i < ss.length
  · rw [if_pos h1]
  · rw [if_neg h1, List.getD_eq_getElem?_getD, List.getElem?_eq_none (by omega)]; rfl

/-- It returned a slice of its own whose elements are ss. -/
def RetStrs (w : World) (len : Nat) (ss : List ByteArray) (e : Ending) (w' : World) : Prop := ∃ ao' cap', e = .returned (.slice ao' len cap') ∧ Strs w' ao' len ss ∧ Below w.heap.size w w'

set_option maxHeartbeats 400000 in
theorem clone_any (ao : Option Addr) (len cap : Nat) (ss : List ByteArray) (w : World) (hS : Strs w ao len ss) (hm : len ≤ 65536) (hnil : ao = none → len = 0 ∧ cap = 0) :
    Calls Try.prog 16 #[.slice ao len cap] w fun e w' => RetStrs w len ss e w' := by
  have hn : ∀ (w : World) (a : Option Addr) (n c n' c' : Nat), (binOp .eql 29 (.slice a n c) (.slice none n' c')).run Try.prog w = .ok (.bool a.isNone) w := fun w a n c n' c' => Lib.run_eql_slice_nil w _ _ a n c n' c' Try.underlying29
  obtain ⟨i0, hi, hz0, hz1, hz2⟩ := info_parts Try.info9
  cases ao with
  | none =>
    obtain ⟨rfl, rfl⟩ := hnil rfl
    go_enter Try.func16, Try.ntmps16
    go_wp2
    go_ret
    exact ⟨_, _, rfl, hS, Below.refl _ _⟩
  | some ad =>
    have hbytes : i0.bytes * len ≤ 281474976710656 := by rw [hz2]; omega
    have hml : len ≤ maxLen := by unfold maxLen; omega
    go_enter Try.func16, Try.ntmps16
    go_wp2_with (at_make; refine wpList_make_full _ rfl _ _ 29 rfl w.heap.size 9 i0 (.string ByteArray.empty) 1 Try.underlying29 hi hz0 hz1 _ _ _ _ len rfl rfl (by omega) (by omega) hbytes hml (Nat.le_refl _) ?_; intro w1 hown hgrow)
    have hF : Filled w.heap.size w.heap.size len ss 0 w1 := Filled.made ss hown
    have hB : Below w.heap.size w w1 := (Below.refl _ _).grown hgrow (Nat.le_refl _) (by simp)
    clear hown hgrow
    go_loopw [4] (fun i wr => ∃ k : Nat, k ≤ len ∧ i = .int .i64 k ∧ Filled w.heap.size w.heap.size len ss k wr ∧ Below w.heap.size w wr) (fun i _ => len - (intOf i).toNat)
    case atStart => exact ⟨0, by omega, rfl, hF, hB⟩
    case round =>
      clear hF hB
      obtain ⟨k, hk, rfl, hF, hB⟩ := hrel
      by_cases hlt : k < len
      · obtain ⟨b, off, had, hb, hc⟩ := hS.2 (by omega)
        simp only [Option.some.injEq] at had
        subst had
        have hck : wr.cell? ⟨b, off + k, none⟩ = some (.string (ss.getD k ByteArray.empty)) := (hB.cell (by exact hb)).trans (hc k hlt)
        obtain ⟨v, hv⟩ := hF.cell k hlt
        have hfz := hF.frozen k
        have hstep := hF.step hlt
        have hB' := hB.setCell (p := ⟨w.heap.size, k, none⟩) (Nat.le_refl _) (.string (ss.getD k ByteArray.empty))
        generalize ss.getD k ByteArray.empty = x at hck hstep hB'
        clear hc
        go_wp2
        go_roundw
        case rel => exact ⟨k + 1, by omega, by go_num, hstep, hB'⟩
        case measure => simp [intOf]; omega
      · have hkl : k = len := by omega
        subst hkl
        have hsl := hS.1
        go_wp2
        go_ret
        exact ⟨_, _, rfl, Filled.strs (by rw [hS.1]; exact hF) hS.1 (fun _ _ => rfl), hB⟩

end Go.Proofs.Qxb6602716a
