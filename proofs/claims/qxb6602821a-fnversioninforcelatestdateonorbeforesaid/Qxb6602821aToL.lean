import Derived.Test.Qxb6602821aOK
import Derived.Test.Qxb6602821aSame
import Derived.BigRegion
import Derived.RegionTactic
namespace Go.Proofs.Qxb6602821a
open Go.RowKit

theorem Try.info47 : (Try.prog.info? 47).map (fun i => (i.zero, i.size, i.bytes)) = some (some (.agg #[.string ByteArray.empty, .int .i64 0, .int .i64 0]), 3, 32) := by kernel_rfl

/-- Block t is a row of N tiers, each of which can be read. -/
def TRow (t N : Nat) (w : World) : Prop :=
  ∃ cur, w.heap[t]? = some (.cells cur 47 (0, 0)) ∧ cur.size = N * 3 ∧ ∀ j, j < N → (∃ l, cur[j * 3]? = some (.string l)) ∧ (∃ m, cur[j * 3 + 1]? = some (.int .i64 m)) ∧ ∃ h, cur[j * 3 + 2]? = some (.int .i64 h)

/-- The tiers of c can be read; they lie in no block g. -/
def TAt (g : Nat) (w : World) (c : Cfg) : Prop := 0 < c.tl → ∃ t, c.tp = some ⟨t, 0, none⟩ ∧ t ≠ g ∧ TRow t c.tl w

theorem TRow.lt {t N : Nat} {w : World} (h : TRow t N w) : t < w.heap.size := by
  obtain ⟨cur, h1, _⟩ := h
  exact (Array.getElem?_eq_some_iff.1 h1).1
theorem TRow.keep {t N : Nat} {w w' : World} (h : TRow t N w) (hb : w'.heap[t]? = w.heap[t]?) : TRow t N w' := by
  obtain ⟨cur, h1, r⟩ := h
  exact ⟨cur, hb.trans h1, r⟩
theorem TAt.keep {g : Nat} {w w' : World} {c : Cfg} (h : TAt g w c) (hb : ∀ b, b < w.heap.size → b ≠ g → w'.heap[b]? = w.heap[b]?) : TAt g w' c := fun h0 => by
  obtain ⟨t, h1, h2, h3⟩ := h h0
  exact ⟨t, h1, h2, h3.keep (hb t h3.lt h2)⟩
theorem TRow.cell {t N : Nat} {w : World} (h : TRow t N w) (j : Nat) (hj : j < N * 3) : ∃ v, w.cell? ⟨t, j, none⟩ = some v := by
  obtain ⟨cur, h1, h2, _⟩ := h
  exact ⟨cur[j]'(by omega), by rw [cell_of_row w t j cur 47 (0, 0) h1, Array.getElem?_eq_getElem]⟩
theorem TRow.frozen {t N : Nat} {w : World} (h : TRow t N w) (j : Nat) : w.frozen? ⟨t, j, none⟩ = false := by
  obtain ⟨cur, h1, _⟩ := h
  exact frozen_of_row w t j cur 47 h1
theorem TRow.made {B t N : Nat} {w : World} (h : w.ownsRow B 47 3 (.slice (some ⟨t, 0, none⟩) N N) N (madeCells (Value.agg #[.string ByteArray.empty, .int .i64 0, .int .i64 0]).cells (N * 3)).toList) : TRow t N w := by
  rcases h.2 with ⟨h', _⟩ | ⟨g', cap', cur, h', _, hg, _, _, hcs, htake⟩
  · simp at h'
  · simp only [Value.slice.injEq, Option.some.injEq, Addr.mk.injEq, and_true, true_and] at h'
    obtain ⟨rfl, rfl⟩ := h'
    have e : (Value.agg #[.string ByteArray.empty, .int .i64 0, .int .i64 0]).cells = #[.string ByteArray.empty, .int .i64 0, .int .i64 0] := rfl
    rw [e] at htake
    have hj : ∀ j, j < N * 3 → cur[j]? = some (#[Value.string ByteArray.empty, .int .i64 0, .int .i64 0][j % 3]!) := fun j hj => by
      have h1 : (cur.toList.take (N * 3))[j]? = cur[j]? := by rw [List.getElem?_take, if_pos hj]; simp
      rw [← h1, htake]
      simp [madeCells, hj]
    refine ⟨cur, hg, hcs, fun i hi => ⟨⟨ByteArray.empty, ?_⟩, ⟨0, ?_⟩, ⟨0, ?_⟩⟩⟩
    · rw [hj _ (by omega), show (i * 3) % 3 = 0 from by omega]; rfl
    · rw [hj _ (by omega), show (i * 3 + 1) % 3 = 1 from by omega]; rfl
    · rw [hj _ (by omega), show (i * 3 + 2) % 3 = 2 from by omega]; rfl
theorem TAt.tiers3 {g : Nat} {w : World} {c : Cfg} (h : TAt g w c) : Tiers3 w c.tp c.tl := fun h0 => by
  obtain ⟨t, h1, _, h3⟩ := h h0
  have hlt := h3.lt
  obtain ⟨cur, e1, e2, e3⟩ := h3
  refine ⟨t, 0, h1, hlt, fun j hj => ?_⟩
  obtain ⟨⟨l, f0⟩, ⟨m, f1⟩, ⟨h, f2⟩⟩ := e3 j hj
  refine ⟨l, m, h, ?_, ?_, ?_⟩
  · rw [Nat.zero_add, cell_of_row w t _ cur 47 (0, 0) e1]; exact f0
  · rw [Nat.zero_add, cell_of_row w t _ cur 47 (0, 0) e1]; exact f1
  · rw [Nat.zero_add, cell_of_row w t _ cur 47 (0, 0) e1]; exact f2

/-- What the copy b has of the config a: its date, set or not; and its tiers can be read. -/
def Tie (g : Nat) (w : World) (a b : Cfg) : Prop := b.ptr.isSome = a.ptr.isSome ∧ b.date = a.date ∧ b.tl ≤ 65536 ∧ TAt g w b

/-- What zzToLedger hands back. -/
def RetLc (w : World) (len : Nat) (cs : Nat → Cfg) (e : Ending) (w' : World) : Prop :=
  ∃ ao' cap' cs', e = .returned (.slice ao' len cap') ∧ Cfgs w' ao' len cs' ∧ (∀ i, i < len → (cs' i).ptr.isSome = (cs i).ptr.isSome ∧ (cs' i).date = (cs i).date ∧ (cs' i).tl ≤ 65536 ∧ Tiers3 w' (cs' i).tp (cs' i).tl) ∧ Below w.heap.size w w'

/-- The world behind the store of a whole tier at place j of the row in block t. -/
def put3 (W : World) (t j : Nat) (l : ByteArray) (m h : Int) : World :=
  ((W.setCell ⟨t, j * 3, none⟩ (.string l)).setCell ⟨t, j * 3 + 1, none⟩ (.int .i64 m)).setCell ⟨t, j * 3 + 2, none⟩ (.int .i64 h)

theorem TRow.put {t N : Nat} {w : World} (hR : TRow t N w) {j : Nat} (hj : j < N) (l : ByteArray) (m h : Int) : TRow t N (put3 w t j l m h).drew := by
  obtain ⟨cur, h1, h2, h3⟩ := hR
  have e0 := heap_setCell_same w t (j * 3) cur 47 (.string l) h1
  have e1 := heap_setCell_same _ t (j * 3 + 1) _ 47 (.int .i64 m) e0
  have e2 := heap_setCell_same _ t (j * 3 + 2) _ 47 (.int .i64 h) e1
  refine ⟨_, e2, by simpa using h2, fun i hi => ?_⟩
  by_cases e : i = j
  · subst e
    refine ⟨⟨l, ?_⟩, ⟨m, ?_⟩, ⟨h, ?_⟩⟩
    · rw [Array.getElem?_setIfInBounds, if_neg (by omega), Array.getElem?_setIfInBounds, if_neg (by omega), Array.getElem?_setIfInBounds, if_pos rfl, if_pos (by omega)]
    · rw [Array.getElem?_setIfInBounds, if_neg (by omega), Array.getElem?_setIfInBounds, if_pos rfl, if_pos (by simp; omega)]
    · rw [Array.getElem?_setIfInBounds, if_pos rfl, if_pos (by simp; omega)]
  · obtain ⟨⟨l', f0⟩, ⟨m', f1⟩, ⟨h', f2⟩⟩ := h3 i hi
    refine ⟨⟨l', ?_⟩, ⟨m', ?_⟩, ⟨h', ?_⟩⟩
    · rw [Array.getElem?_setIfInBounds, if_neg (by omega), Array.getElem?_setIfInBounds, if_neg (by omega), Array.getElem?_setIfInBounds, if_neg (by omega)]; exact f0
    · rw [Array.getElem?_setIfInBounds, if_neg (by omega), Array.getElem?_setIfInBounds, if_neg (by omega), Array.getElem?_setIfInBounds, if_neg (by omega)]; exact f1
    · rw [Array.getElem?_setIfInBounds, if_neg (by omega), Array.getElem?_setIfInBounds, if_neg (by omega), Array.getElem?_setIfInBounds, if_neg (by omega)]; exact f2
theorem put3_below {B : Nat} {w W : World} (h : Below B w W) {t : Nat} (ht : B ≤ t) (j : Nat) (l : ByteArray) (m n : Int) : Below B w (put3 W t j l m n) := by
  unfold put3
  exact ((h.setCell (by exact ht) _).setCell (by exact ht) _).setCell (by exact ht) _

theorem size_set' (w : World) (a : Addr) (v : Value) : (w.setCell a v).heap.size = w.heap.size := by simp [World.setCell]

/-- The world behind the store of a whole config at place k of the row in block g. -/
def put4 (W : World) (g k : Nat) (v n : Int) (p tp : Option Addr) (tl tc : Nat) : World :=
  (((W.setCell ⟨g, k * 4, none⟩ (.int .i64 v)).setCell ⟨g, k * 4 + 1, none⟩ (.pointer p)).setCell ⟨g, k * 4 + 2, none⟩ (.int .i64 n)).setCell ⟨g, k * 4 + 3, none⟩ (.slice tp tl tc)

theorem put4_size (W : World) (g k : Nat) (v n : Int) (p tp : Option Addr) (tl tc : Nat) : (put4 W g k v n p tp tl tc).heap.size = W.heap.size := by
  unfold put4; rw [size_set', size_set', size_set', size_set']
theorem put4_other (W : World) (g k : Nat) (v n : Int) (p tp : Option Addr) (tl tc : Nat) (b : Nat) (hb : b ≠ g) : (put4 W g k v n p tp tl tc).heap[b]? = W.heap[b]? := by
  unfold put4
  rw [heap_setCell_other _ ⟨g, k * 4 + 3, none⟩ b _ hb, heap_setCell_other _ ⟨g, k * 4 + 2, none⟩ b _ hb, heap_setCell_other _ ⟨g, k * 4 + 1, none⟩ b _ hb, heap_setCell_other _ ⟨g, k * 4, none⟩ b _ hb]
theorem put4_below {B : Nat} {w W : World} (h : Below B w W) {g : Nat} (hg : B ≤ g) (k : Nat) (v n : Int) (p tp : Option Addr) (tl tc : Nat) : Below B w (put4 W g k v n p tp tl tc) := by
  unfold put4
  exact (((h.setCell (by exact hg) _).setCell (by exact hg) _).setCell (by exact hg) _).setCell (by exact hg) _

theorem put4_alloc (W : World) (o : Obj) (g k : Nat) (v n : Int) (p tp : Option Addr) (tl tc : Nat) (hg : g < W.heap.size) : put4 (W.alloc o) g k v n p tp tl tc = (put4 W g k v n p tp tl tc).alloc o := by
  unfold put4
  rw [World.setCell_alloc_past _ _ _ _ hg, World.setCell_alloc_past _ _ _ _ (by rw [size_set']; exact hg), World.setCell_alloc_past _ _ _ _ (by rw [size_set', size_set']; exact hg), World.setCell_alloc_past _ _ _ _ (by rw [size_set', size_set', size_set']; exact hg)]

/-- One config more, stored whole: W1 is the world ahead of the store; it has turned nothing that wr had. -/
theorem Lc.store4 {g N k : Nat} {wr W1 : World} {cs' : Nat → Cfg} (hL : Lc g N k wr cs') (hk : k < N) (hs : wr.heap.size ≤ W1.heap.size) (ho : ∀ b, b < wr.heap.size → W1.heap[b]? = wr.heap[b]?)
    (v n : Int) (p tp : Option Addr) (tl tc : Nat) (x : ByteArray) (hptr : ∀ ad, p = some ad → ∃ b', ad = ⟨b', 0, none⟩ ∧ b' ≠ g ∧ b' < W1.heap.size ∧ W1.cell? ⟨b', 0, none⟩ = some (.string x)) :
    Lc g N (k + 1) (put4 W1 g k v n p tp tl tc).drew (upd cs' k ⟨v, p, n, tp, tl, tc, x⟩) := by
  have hlt := hL.lt
  refine hL.put hk _ (by show wr.heap.size ≤ (put4 W1 g k v n p tp tl tc).heap.size; rw [put4_size]; exact hs) (fun b hb hbg => ?_) (fun cur h1 h2 _ => ?_)
  · show (put4 W1 g k v n p tp tl tc).heap[b]? = _
    rw [put4_other _ _ _ _ _ _ _ _ _ _ hbg]; exact ho b hb
  · have e0 := heap_setCell_same W1 g (k * 4) cur 30 (.int .i64 v) ((ho g hlt).trans h1)
    have e1 := heap_setCell_same _ g (k * 4 + 1) _ 30 (.pointer p) e0
    have e2 := heap_setCell_same _ g (k * 4 + 2) _ 30 (.int .i64 n) e1
    have e3 := heap_setCell_same _ g (k * 4 + 3) _ 30 (.slice tp tl tc) e2
    refine ⟨_, e3, by simp, fun j hj => ?_, ?_, ?_, ?_, ?_, fun ad had => ?_⟩
    · rw [Array.getElem?_setIfInBounds, if_neg (by omega), Array.getElem?_setIfInBounds, if_neg (by omega), Array.getElem?_setIfInBounds, if_neg (by omega), Array.getElem?_setIfInBounds, if_neg (by omega)]
    · rw [Array.getElem?_setIfInBounds, if_neg (by omega), Array.getElem?_setIfInBounds, if_neg (by omega), Array.getElem?_setIfInBounds, if_neg (by omega), Array.getElem?_setIfInBounds, if_pos rfl, if_pos (by omega)]
    · rw [Array.getElem?_setIfInBounds, if_neg (by omega), Array.getElem?_setIfInBounds, if_neg (by omega), Array.getElem?_setIfInBounds, if_pos rfl, if_pos (by simp; omega)]
    · rw [Array.getElem?_setIfInBounds, if_neg (by omega), Array.getElem?_setIfInBounds, if_pos rfl, if_pos (by simp; omega)]
    · rw [Array.getElem?_setIfInBounds, if_pos rfl, if_pos (by simp; omega)]
    · obtain ⟨b', g1, g2, g3, g4⟩ := hptr ad had
      refine ⟨b', g1, g2, ?_, ?_⟩
      · show b' < (put4 W1 g k v n p tp tl tc).heap.size
        rw [put4_size]; exact g3
      · have hcell : (put4 W1 g k v n p tp tl tc).drew.cell? ⟨b', 0, none⟩ = W1.cell? ⟨b', 0, none⟩ := World.cell?_of_block (w := W1) (w' := (put4 W1 g k v n p tp tl tc).drew) (a := ⟨b', 0, none⟩) (put4_other W1 g k v n p tp tl tc b' g2)
        rw [← g4]
        exact hcell

/-- .. and what the copies have of the configs. -/
theorem tie_store4 {g k : Nat} {wr W1 : World} {cs cs' : Nat → Cfg} (h : ∀ i, i < k → Tie g wr (cs i) (cs' i)) (ho : ∀ b, b < wr.heap.size → W1.heap[b]? = wr.heap[b]?)
    {v n : Int} {p tp : Option Addr} {tl tc : Nat} {x : ByteArray} (h1 : p.isSome = (cs k).ptr.isSome) (h2 : x = (cs k).date) (h3 : tl ≤ 65536) (h4 : TAt g W1 ⟨v, p, n, tp, tl, tc, x⟩) :
    ∀ i, i < k + 1 → Tie g (put4 W1 g k v n p tp tl tc).drew (cs i) (upd cs' k ⟨v, p, n, tp, tl, tc, x⟩ i) := by
  intro i hi
  by_cases e : i = k
  · subst e
    rw [upd_same]
    exact ⟨h1, h2, h3, h4.keep (fun b _ hb => put4_other _ _ _ _ _ _ _ _ _ _ hb)⟩
  · rw [upd_other _ _ _ e]
    obtain ⟨t1, t2, t3, t4⟩ := h i (by omega)
    exact ⟨t1, t2, t3, t4.keep (fun b hb hbg => by
      show (put4 W1 g k v n p tp tl tc).heap[b]? = _
      rw [put4_other _ _ _ _ _ _ _ _ _ _ hbg]; exact ho b hb)⟩

set_option maxRecDepth 100000 in
set_option maxHeartbeats 1600000 in
theorem toLedger_any (ao : Option Addr) (len cap : Nat) (cs : Nat → Cfg) (lab : Nat → Nat → ByteArray) (mn : Nat → Nat → Int) (w : World) (hI : In w ao len cs lab mn) (hm : len ≤ 65536) (hsm : SmallTo cs len) (hnil : ao = none → len = 0 ∧ cap = 0) :
    Calls Try.prog 8 #[.slice ao len cap] w fun e w' => RetLc w len cs e w' := by
  have hn : ∀ (w : World) (a : Option Addr) (n c n' c' : Nat), (binOp .eql 22 (.slice a n c) (.slice none n' c')).run Try.prog w = .ok (.bool a.isNone) w := fun w a n c n' c' => Lib.run_eql_slice_nil w _ _ a n c n' c' Try.underlying22
  obtain ⟨i0, hi, hz0, hz1, hz2⟩ := info_parts Try.info30
  obtain ⟨i1, hj, hy0, hy1, hy2⟩ := info_parts Try.info47
  cases ao with
  | none =>
    obtain ⟨rfl, rfl⟩ := hnil rfl
    go_enter Try.func8, Try.ntmps8
    go_wp2
    go_ret
    exact ⟨_, _, cs, rfl, hI.1, fun i hi => by omega, Below.refl _ _⟩
  | some ad =>
    have hbytes : i0.bytes * len ≤ 281474976710656 := by rw [hz2]; omega
    have hml : len ≤ maxLen := by unfold maxLen; omega
    go_enter Try.func8, Try.ntmps8
    go_wp2_with (at_make; refine wpList_make_full _ rfl _ _ 25 rfl w.heap.size 30 i0 _ 4 Try.underlying25 hi hz0 hz1 _ _ _ _ len rfl rfl (by omega) (by omega) hbytes hml (Nat.le_refl _) ?_; intro w1 hown hgrow)
    have hL : Lc w.heap.size len 0 w1 (fun _ => ⟨0, none, 0, none, 0, 0, ByteArray.empty⟩) := Lc.made _ hown
    have hB : Below w.heap.size w w1 := (Below.refl _ _).grown hgrow (Nat.le_refl _) (by simp)
    clear hown hgrow hbytes hi hz0 hz1 hz2 hml
    go_loopw [4] (fun i wr => ∃ (k : Nat) (cs' : Nat → Cfg), k ≤ len ∧ i = .int .i64 k ∧ Lc w.heap.size len k wr cs' ∧ (∀ i, i < k → Tie w.heap.size wr (cs i) (cs' i)) ∧ Below w.heap.size w wr) (fun i _ => len - (intOf i).toNat)
    case atStart => exact ⟨0, _, by omega, rfl, hL, fun i hi => by omega, hB⟩
    case round =>
      clear hL hB
      rename World => wo
      obtain ⟨k, cs', hk, rfl, hL, htie, hB⟩ := hrel
      by_cases hlt : k < len
      · have hI' := hI.below hB
        obtain ⟨b, off, had, hb, hc⟩ := hI.1 (by omega)
        simp only [Option.some.injEq] at had
        subst had
        obtain ⟨hT, hTn, _⟩ := hI'.2 k hlt
        obtain ⟨_, _, e1, _, hc'⟩ := hI'.1 (by omega)
        simp only [Option.some.injEq, Addr.mk.injEq, and_true] at e1
        obtain ⟨rfl, rfl⟩ := e1
        obtain ⟨q0, q1, q2, q3, q4⟩ := hc' k hlt
        have htl := hsm k hlt
        obtain ⟨c, hcm⟩ : ∃ c, c = cs k := ⟨_, rfl⟩
        rw [← hcm] at q0 q1 q2 q3 q4 hT hTn htl
        have HC : Hid (c = cs k) := hcm
        clear hc hc' hcm hI'
        obtain ⟨cv, cp, cn, tp, tl, tc, cd⟩ := c
        simp only at q0 q1 q2 q3 q4 hT hTn htl
        obtain ⟨x0, hx0⟩ := hL.cell (k * 4) (by omega)
        obtain ⟨x1, hx1⟩ := hL.cell (k * 4 + 1) (by omega)
        obtain ⟨x2, hx2⟩ := hL.cell (k * 4 + 2) (by omega)
        obtain ⟨x3, hx3⟩ := hL.cell (k * 4 + 3) (by omega)
        have f0 := hL.frozen (k * 4)
        have f1 := hL.frozen (k * 4 + 1)
        have f2 := hL.frozen (k * 4 + 2)
        have f3 := hL.frozen (k * 4 + 3)
        have hkI : (k : Int) < (len : Int) := by omega
        have hgl := hL.lt
        cases cp with
        | none =>
          cases tp with
          | none =>
            obtain ⟨rfl, rfl⟩ := hTn rfl
            clear hTn
            go_wp2_with fail
            go_region
            go_wp2_with fail
            go_roundw
            case rel => exact ⟨k + 1, _, by omega, by go_num, hL.store4 hlt (Nat.le_refl _) (fun _ _ => rfl) cv cn none none 0 0 cd (fun ad had => by cases had), tie_store4 htie (fun _ _ => rfl) (by rw [← HC.out]) (by rw [← HC.out]) (by omega) (fun h0 => absurd h0 (by simp)), (put4_below hB (Nat.le_refl _) k cv cn none none 0 0).drew⟩
            case measure => simp [intOf]; omega
          | some ta =>
            have hbW : b < wo.heap.size := by omega
            have hgW := hgl
            have hAB : Below wo.heap.size wo wo := Below.refl _ _
            clear hTn q4
            have htb : i1.bytes * tl ≤ 281474976710656 := by rw [hy2]; omega
            have htm : tl ≤ maxLen := by unfold maxLen; omega
            go_wp2_with (at_make; refine wpList_make_full _ rfl _ _ 28 rfl wo.heap.size 47 i1 _ 3 Try.underlying28 hj hy0 hy1 _ _ _ _ tl rfl rfl (by omega) (by omega) htb htm (Nat.le_refl _) ?_; intro w2 hown hgrow)
            have hR : TRow wo.heap.size tl w2 := TRow.made hown
            have hB2 : Below wo.heap.size wo w2 := (Below.refl _ _).grown hgrow (Nat.le_refl _) (by simp)
            clear hown hgrow htb htm hj hy0 hy1 hy2
            go_loopw [8] (fun i wx => ∃ j : Nat, j ≤ tl ∧ i = .int .i64 j ∧ TRow wo.heap.size tl wx ∧ Below wo.heap.size wo wx) (fun i _ => tl - (intOf i).toNat)
            case atStart => exact ⟨0, by omega, rfl, hR, hB2⟩
            case round =>
              clear hR hB2
              obtain ⟨j, hj, rfl, hR, hB2⟩ := hrel
              have q3' := (hB2.cell (p := ⟨b, off + k * 4 + 3, none⟩) hbW).trans q3
              by_cases hjl : j < tl
              · obtain ⟨tb, toff, htd, htb, htc⟩ := hT (by omega)
                simp only [Option.some.injEq] at htd
                subst htd
                have g0 := (hB2.cell (p := ⟨tb, toff + j * 2, none⟩) htb).trans (htc j hjl).1
                have g1 := (hB2.cell (p := ⟨tb, toff + j * 2 + 1, none⟩) htb).trans (htc j hjl).2
                generalize lab k j = y at g0
                generalize mn k j = z at g1
                obtain ⟨y0, hy0⟩ := hR.cell (j * 3) (by omega)
                obtain ⟨y1, hy1⟩ := hR.cell (j * 3 + 1) (by omega)
                obtain ⟨y2, hy2⟩ := hR.cell (j * 3 + 2) (by omega)
                have p0 := hR.frozen (j * 3)
                have p1 := hR.frozen (j * 3 + 1)
                have p2 := hR.frozen (j * 3 + 2)
                have hjI : (j : Int) < (tl : Int) := by omega
                have hR' := hR.put hjl y z 0
                have hB3 := (put3_below hB2 (Nat.le_refl _) j y z 0).drew
                clear htc hR hB2 hT q0 q1 q2 q3 hx0 hx1 hx2 hx3 f0 f1 f2 f3
                go_wp2_with fail
                go_region
                go_wp2_with fail
                go_roundw
                case rel => exact ⟨j + 1, by omega, by go_num, hR', hB3⟩
                case measure => simp [intOf]; omega
              · have hAW : Below wo.heap.size wo wr := hAB.trans (hB2.mono hAB.size)
                have r0 := (hB2.cell (p := ⟨b, off + k * 4, none⟩) hbW).trans q0
                have r2 := (hB2.cell (p := ⟨b, off + k * 4 + 2, none⟩) hbW).trans q2
                have u0 := (hB2.cell (p := ⟨w.heap.size, k * 4, none⟩) hgW).trans hx0
                have u1 := (hB2.cell (p := ⟨w.heap.size, k * 4 + 1, none⟩) hgW).trans hx1
                have u2 := (hB2.cell (p := ⟨w.heap.size, k * 4 + 2, none⟩) hgW).trans hx2
                have u3 := (hB2.cell (p := ⟨w.heap.size, k * 4 + 3, none⟩) hgW).trans hx3
                have v0 := (hB2.frozen (p := ⟨w.heap.size, k * 4, none⟩) hgW).trans f0
                have v1 := (hB2.frozen (p := ⟨w.heap.size, k * 4 + 1, none⟩) hgW).trans f1
                have v2 := (hB2.frozen (p := ⟨w.heap.size, k * 4 + 2, none⟩) hgW).trans f2
                have v3 := (hB2.frozen (p := ⟨w.heap.size, k * 4 + 3, none⟩) hgW).trans f3
                have hne : wo.heap.size ≠ w.heap.size := by omega
                have s1 := hL.store4 (W1 := wr) hlt hAW.size (fun x hx => hAW.block x hx) cv cn none (some ⟨wo.heap.size, 0, none⟩) tl tl cd (fun ad had => by cases had)
                have s2 := tie_store4 (W1 := wr) (v := cv) (n := cn) (p := none) (tp := some ⟨wo.heap.size, 0, none⟩) (tl := tl) (tc := tl) (x := cd) htie (fun x hx => hAW.block x hx) (by rw [← HC.out]) (by rw [← HC.out]) htl (fun _ => ⟨wo.heap.size, rfl, hne, hR⟩)
                have s3 := (put4_below (hB.trans (hAW.mono hB.size)) (Nat.le_refl _) k cv cn none (some ⟨wo.heap.size, 0, none⟩) tl tl).drew
                have S2 : Hid (∀ i, i < k + 1 → Tie w.heap.size (put4 wr w.heap.size k cv cn none (some ⟨wo.heap.size, 0, none⟩) tl tl).drew (cs i) (upd cs' k ⟨cv, none, cn, some ⟨wo.heap.size, 0, none⟩, tl, tl, cd⟩ i)) := s2
                clear s2 htie hL hR hB hAW hT hAB hB2 q0 q1 q2 q3 hx0 hx1 hx2 hx3 f0 f1 f2 f3
                go_wp2_with fail
                go_region
                go_wp2_with fail
                go_roundw
                case rel => exact ⟨k + 1, _, by omega, by go_num, s1, S2.out, s3⟩
                case measure => simp [intOf]; omega
        | some pa =>
          obtain ⟨b', off', hpa, hb', hd⟩ := q4 pa rfl
          subst hpa
          clear q4
          cases tp with
          | none =>
            obtain ⟨rfl, rfl⟩ := hTn rfl
            clear hTn
            go_wp2_with fail
            go_region
            go_wp2_with fail
            have hne : wo.heap.size ≠ w.heap.size := by omega
            have s1 := hL.store4 (W1 := wo.alloc (.cells #[.string cd] 9)) hlt (by simp) (fun b hb => Below.heap_alloc _ _ _ hb) cv cn (some ⟨wo.heap.size, 0, none⟩) none 0 0 cd (fun ad had => by
              simp only [Option.some.injEq] at had
              exact ⟨wo.heap.size, had.symm, hne, by simp, by rw [cell_of_row _ _ 0 _ 9 (0, 0) (heap_alloc_new wo _)]; rfl⟩)
            have s2 := tie_store4 (W1 := wo.alloc (.cells #[.string cd] 9)) (v := cv) (n := cn) (p := some ⟨wo.heap.size, 0, none⟩) (tp := none) (tl := 0) (tc := 0) (x := cd) htie (fun b hb => Below.heap_alloc _ _ _ hb) (by rw [← HC.out]; rfl) (by rw [← HC.out]) (by omega) (fun h0 => absurd h0 (by simp))
            have s3 := (put4_below (hB.alloc hB.size (.cells #[.string cd] 9)) (Nat.le_refl _) k cv cn (some ⟨wo.heap.size, 0, none⟩) none 0 0).drew
            rw [put4_alloc _ _ _ _ _ _ _ _ _ _ hgl] at s1 s2 s3
            go_roundw
            case rel => exact ⟨k + 1, _, by omega, by go_num, s1, s2, s3⟩
            case measure => simp [intOf]; omega
          | some ta =>
            have HD : Hid (wo.cell? ⟨b', off', none⟩ = some (.string cd)) := hd
            obtain ⟨W1, hW1⟩ : ∃ W1, W1 = wo.alloc (.cells #[.string cd] 9) := ⟨_, rfl⟩
            have HW : Hid (W1 = wo.alloc (.cells #[.string cd] 9)) := hW1
            have hAB : Below wo.heap.size wo W1 := by rw [hW1]; exact (Below.refl _ _).alloc (Nat.le_refl _) _
            have hWs : wo.heap.size < W1.heap.size := by rw [hW1]; simp
            have hcW : W1.cell? ⟨wo.heap.size, 0, none⟩ = some (.string cd) := by rw [hW1, cell_of_row _ _ 0 _ 9 (0, 0) (heap_alloc_new wo _)]; rfl
            have HCW : Hid (W1.cell? ⟨wo.heap.size, 0, none⟩ = some (.string cd)) := hcW
            clear hW1 hcW
            have hbW : b < W1.heap.size := by omega
            have hgW : w.heap.size < W1.heap.size := by omega
            have Q0 : Hid (W1.cell? ⟨b, off + k * 4, none⟩ = some (.int .i64 cv)) := (hAB.cell (p := ⟨b, off + k * 4, none⟩) (by show b < _; omega)).trans q0
            have Q2 : Hid (W1.cell? ⟨b, off + k * 4 + 2, none⟩ = some (.int .i64 cn)) := (hAB.cell (p := ⟨b, off + k * 4 + 2, none⟩) (by show b < _; omega)).trans q2
            have Q3 : Hid (W1.cell? ⟨b, off + k * 4 + 3, none⟩ = some (.slice (some ta) tl tc)) := (hAB.cell (p := ⟨b, off + k * 4 + 3, none⟩) (by show b < _; omega)).trans q3
            have X0 : Hid (W1.cell? ⟨w.heap.size, k * 4, none⟩ = some x0) := (hAB.cell (p := ⟨w.heap.size, k * 4, none⟩) hgl).trans hx0
            have X1 : Hid (W1.cell? ⟨w.heap.size, k * 4 + 1, none⟩ = some x1) := (hAB.cell (p := ⟨w.heap.size, k * 4 + 1, none⟩) hgl).trans hx1
            have X2 : Hid (W1.cell? ⟨w.heap.size, k * 4 + 2, none⟩ = some x2) := (hAB.cell (p := ⟨w.heap.size, k * 4 + 2, none⟩) hgl).trans hx2
            have X3 : Hid (W1.cell? ⟨w.heap.size, k * 4 + 3, none⟩ = some x3) := (hAB.cell (p := ⟨w.heap.size, k * 4 + 3, none⟩) hgl).trans hx3
            have Z0 : Hid (W1.frozen? ⟨w.heap.size, k * 4, none⟩ = false) := (hAB.frozen (p := ⟨w.heap.size, k * 4, none⟩) hgl).trans f0
            have Z1 : Hid (W1.frozen? ⟨w.heap.size, k * 4 + 1, none⟩ = false) := (hAB.frozen (p := ⟨w.heap.size, k * 4 + 1, none⟩) hgl).trans f1
            have Z2 : Hid (W1.frozen? ⟨w.heap.size, k * 4 + 2, none⟩ = false) := (hAB.frozen (p := ⟨w.heap.size, k * 4 + 2, none⟩) hgl).trans f2
            have Z3 : Hid (W1.frozen? ⟨w.heap.size, k * 4 + 3, none⟩ = false) := (hAB.frozen (p := ⟨w.heap.size, k * 4 + 3, none⟩) hgl).trans f3
            replace hT := hT.below hAB
            clear hTn
            have htb : i1.bytes * tl ≤ 281474976710656 := by rw [hy2]; omega
            have htm : tl ≤ maxLen := by unfold maxLen; omega
            go_wp2_with (at_make; rw [← HW.out]; refine wpList_make_full _ rfl _ _ 28 rfl W1.heap.size 47 i1 _ 3 Try.underlying28 hj hy0 hy1 _ _ _ _ tl rfl rfl (by omega) (by omega) htb htm (Nat.le_refl _) ?_; intro w2 hown hgrow)
            have hR : TRow W1.heap.size tl w2 := TRow.made hown
            have hB2 : Below W1.heap.size W1 w2 := (Below.refl _ _).grown hgrow (Nat.le_refl _) (by simp)
            clear hown hgrow htb htm hj hy0 hy1 hy2
            go_loopw [8] (fun i wx => ∃ j : Nat, j ≤ tl ∧ i = .int .i64 j ∧ TRow W1.heap.size tl wx ∧ Below W1.heap.size W1 wx) (fun i _ => tl - (intOf i).toNat)
            case atStart => exact ⟨0, by omega, rfl, hR, hB2⟩
            case round =>
              clear hR hB2 q0 q1 q2 q3 hx0 hx1 hx2 hx3 f0 f1 f2 f3 hd
              have q0 := Q0.out
              have q2 := Q2.out
              have q3 := Q3.out
              have hx0 := X0.out
              have hx1 := X1.out
              have hx2 := X2.out
              have hx3 := X3.out
              have f0 := Z0.out
              have f1 := Z1.out
              have f2 := Z2.out
              have f3 := Z3.out
              obtain ⟨j, hj, rfl, hR, hB2⟩ := hrel
              have q3' := (hB2.cell (p := ⟨b, off + k * 4 + 3, none⟩) hbW).trans q3
              by_cases hjl : j < tl
              · obtain ⟨tb, toff, htd, htb, htc⟩ := hT (by omega)
                simp only [Option.some.injEq] at htd
                subst htd
                have g0 := (hB2.cell (p := ⟨tb, toff + j * 2, none⟩) htb).trans (htc j hjl).1
                have g1 := (hB2.cell (p := ⟨tb, toff + j * 2 + 1, none⟩) htb).trans (htc j hjl).2
                generalize lab k j = y at g0
                generalize mn k j = z at g1
                obtain ⟨y0, hy0⟩ := hR.cell (j * 3) (by omega)
                obtain ⟨y1, hy1⟩ := hR.cell (j * 3 + 1) (by omega)
                obtain ⟨y2, hy2⟩ := hR.cell (j * 3 + 2) (by omega)
                have p0 := hR.frozen (j * 3)
                have p1 := hR.frozen (j * 3 + 1)
                have p2 := hR.frozen (j * 3 + 2)
                have hjI : (j : Int) < (tl : Int) := by omega
                have hR' := hR.put hjl y z 0
                have hB3 := (put3_below hB2 (Nat.le_refl _) j y z 0).drew
                clear htc hR hB2 hT q0 q2 q3 hx0 hx1 hx2 hx3 f0 f1 f2 f3
                go_wp2_with fail
                go_region
                go_wp2_with fail
                go_roundw
                case rel => exact ⟨j + 1, by omega, by go_num, hR', hB3⟩
                case measure => simp [intOf]; omega
              · have hAW : Below wo.heap.size wo wr := hAB.trans (hB2.mono hAB.size)
                have r0 := (hB2.cell (p := ⟨b, off + k * 4, none⟩) hbW).trans q0
                have r2 := (hB2.cell (p := ⟨b, off + k * 4 + 2, none⟩) hbW).trans q2
                have u0 := (hB2.cell (p := ⟨w.heap.size, k * 4, none⟩) hgW).trans hx0
                have u1 := (hB2.cell (p := ⟨w.heap.size, k * 4 + 1, none⟩) hgW).trans hx1
                have u2 := (hB2.cell (p := ⟨w.heap.size, k * 4 + 2, none⟩) hgW).trans hx2
                have u3 := (hB2.cell (p := ⟨w.heap.size, k * 4 + 3, none⟩) hgW).trans hx3
                have v0 := (hB2.frozen (p := ⟨w.heap.size, k * 4, none⟩) hgW).trans f0
                have v1 := (hB2.frozen (p := ⟨w.heap.size, k * 4 + 1, none⟩) hgW).trans f1
                have v2 := (hB2.frozen (p := ⟨w.heap.size, k * 4 + 2, none⟩) hgW).trans f2
                have v3 := (hB2.frozen (p := ⟨w.heap.size, k * 4 + 3, none⟩) hgW).trans f3
                have hne : W1.heap.size ≠ w.heap.size := by omega
                have s1 := hL.store4 (W1 := wr) hlt hAW.size (fun x hx => hAW.block x hx) cv cn (some ⟨wo.heap.size, 0, none⟩) (some ⟨W1.heap.size, 0, none⟩) tl tl cd (fun ad had => by
                  simp only [Option.some.injEq] at had
                  exact ⟨wo.heap.size, had.symm, by omega, Nat.lt_of_lt_of_le hWs hB2.size, (hB2.cell (p := ⟨wo.heap.size, 0, none⟩) hWs).trans HCW.out⟩)
                have s2 := tie_store4 (W1 := wr) (v := cv) (n := cn) (p := (some ⟨wo.heap.size, 0, none⟩)) (tp := some ⟨W1.heap.size, 0, none⟩) (tl := tl) (tc := tl) (x := cd) htie (fun x hx => hAW.block x hx) (by rw [← HC.out]; rfl) (by rw [← HC.out]) htl (fun _ => ⟨W1.heap.size, rfl, hne, hR⟩)
                have s3 := (put4_below (hB.trans (hAW.mono hB.size)) (Nat.le_refl _) k cv cn (some ⟨wo.heap.size, 0, none⟩) (some ⟨W1.heap.size, 0, none⟩) tl tl).drew
                have S2 : Hid (∀ i, i < k + 1 → Tie w.heap.size (put4 wr w.heap.size k cv cn (some ⟨wo.heap.size, 0, none⟩) (some ⟨W1.heap.size, 0, none⟩) tl tl).drew (cs i) (upd cs' k ⟨cv, (some ⟨wo.heap.size, 0, none⟩), cn, some ⟨W1.heap.size, 0, none⟩, tl, tl, cd⟩ i)) := s2
                clear s2 htie hL hR hB hAW hT hAB hB2 q0 q2 q3 hx0 hx1 hx2 hx3 f0 f1 f2 f3
                go_wp2_with fail
                go_region
                go_wp2_with fail
                go_roundw
                case rel => exact ⟨k + 1, _, by omega, by go_num, s1, S2.out, s3⟩
                case measure => simp [intOf]; omega
      · have hkl : k = len := by omega
        subst hkl
        go_wp2_with fail
        go_ret
        exact ⟨_, _, cs', rfl, hL.cfgs, fun i hi => ⟨(htie i hi).1, (htie i hi).2.1, (htie i hi).2.2.1, (htie i hi).2.2.2.tiers3⟩, hB⟩

end Go.Proofs.Qxb6602821a
