import Derived.Test.Qxb6602716aCode
import Derived.Lib.AppendStr
namespace Go.Proofs.Qxb6602716a
open Go.RowKit

theorem Try.info5 : (Try.prog.info? 5).map (fun i => (i.zero, i.size, i.bytes)) = some (some (.int .u8 0), 1, 1) := by kernel_rfl

/-- Bytes as cells. -/
def u8s (l : List UInt8) : List Value := l.map fun b => Value.int .u8 b.toNat

theorem u8s_append (a b : List UInt8) : u8s (a ++ b) = u8s a ++ u8s b := by simp [u8s]
theorem u8s_length (a : List UInt8) : (u8s a).length = a.length := by simp [u8s]
theorem u8s_one (a : List UInt8) : ∀ u ∈ u8s a, u.oneCell' = true := by
  intro u hu
  obtain ⟨b, _, rfl⟩ := List.mem_map.1 hu
  rfl

/-- The value v is a slice of bytes of the call's own (or nil), whose bytes are bs. -/
def OwnBytes (B : Nat) (w : World) (v : Value) (bs : List UInt8) : Prop := w.ownsRow B 5 1 v bs.length (u8s bs)

theorem own_block {B e n : Nat} {w : World} {v : Value} {xs : List Value} (h : w.ownsRow B e 1 v n xs) : ∀ k, v.ownBlock = some k → B ≤ k ∧ k < w.heap.size := by
  intro k hk
  rcases h.2 with ⟨rfl, _⟩ | ⟨g, cap, cur, rfl, hg, hh, _⟩
  · simp [Value.ownBlock] at hk
  · simp only [Value.ownBlock, Option.some.injEq] at hk
    subst hk
    exact ⟨hg, (Array.getElem?_eq_some_iff.1 hh).1⟩

/-- It returned a slice of its own of these bytes. -/
def RetBytes (B : Nat) (w : World) (bs : List UInt8) (e : Ending) (w' : World) : Prop := ∃ v', e = .returned v' ∧ OwnBytes B w' v' bs ∧ Below B w w' 

/-- The array of twenty bytes in block g: from place i on it holds ds. -/
def Arr (g : Nat) (w : World) (i : Nat) (ds : List UInt8) : Prop :=
  ∃ cur, w.heap[g]? = some (.cells cur 44 (0, 0)) ∧ cur.size = 20 ∧ i + ds.length = 20 ∧ ∀ j, j < ds.length → cur[i + j]? = some (.int .u8 (ds.getD j 0).toNat)

theorem Arr.cell {g i ds w} (h : Arr g w i ds) (j : Nat) (hj : j < 20) : ∃ v, w.cell? ⟨g, j, none⟩ = some v := by
  obtain ⟨cur, h1, h2, _⟩ := h
  exact ⟨cur[j]'(by omega), by rw [cell_of_row w g j cur 44 (0, 0) h1, Array.getElem?_eq_getElem]⟩
theorem Arr.frozen {g i ds w} (h : Arr g w i ds) (j : Nat) : w.frozen? ⟨g, j, none⟩ = false := by
  obtain ⟨cur, h1, _⟩ := h
  exact frozen_of_row w g j cur 44 h1
theorem Arr.step {g i ds w} (h : Arr g w (i + 1) ds) (c : UInt8) : Arr g (w.setCell ⟨g, i, none⟩ (.int .u8 c.toNat)) i (c :: ds) := by
  obtain ⟨cur, h1, h2, h3, h4⟩ := h
  refine ⟨_, heap_setCell_same w g i cur 44 _ h1, by simpa using h2, by simp; omega, fun j hj => ?_⟩
  cases j with
  | zero => simp [Array.getElem?_setIfInBounds, h2]; omega
  | succ j =>
    simp only [List.length_cons] at hj
    have := h4 j (by omega)
    rw [show i + (j + 1) = i + 1 + j from by omega, List.getD_cons_succ, Array.getElem?_setIfInBounds, if_neg (by omega)]
    exact this
theorem Arr.news {g i ds w} (h : Arr g w i ds) : ∀ j u, (u8s ds)[j]? = some u → w.cell? ((⟨g, i, none⟩ : Addr).add j) = some u := by
  obtain ⟨cur, h1, h2, h3, h4⟩ := h
  intro j u hu
  have ea : (⟨g, i, none⟩ : Addr).add j = ⟨g, i + j, none⟩ := by cases j <;> simp [Addr.add]
  obtain ⟨hj, he⟩ := List.getElem?_eq_some_iff.1 hu
  rw [u8s_length] at hj
  rw [ea, cell_of_row w g _ cur 44 (0, 0) h1, h4 j hj, ← he]
  simp [u8s, List.getD_eq_getElem?_getD, List.getElem?_eq_getElem hj]
theorem Arr.made (w : World) : Arr w.heap.size (w.alloc (.cells #[.int .u8 0, .int .u8 0, .int .u8 0, .int .u8 0, .int .u8 0, .int .u8 0, .int .u8 0, .int .u8 0, .int .u8 0, .int .u8 0, .int .u8 0, .int .u8 0, .int .u8 0, .int .u8 0, .int .u8 0, .int .u8 0, .int .u8 0, .int .u8 0, .int .u8 0, .int .u8 0] 44)) 20 [] :=
  ⟨_, heap_alloc_new w _, rfl, rfl, fun j hj => by simp at hj⟩

/-- How far the loop has come: f digits may still come; m is what is left of N; ds has been laid. -/
def Digs (N f m : Nat) (ds : List UInt8) : Prop := f ≤ 7 ∧ m < 10 ^ f ∧ dg f m ds = dg 7 N []
theorem Digs.start (N : Nat) (h : N ≤ 1048576) : Digs N 7 N [] := ⟨Nat.le_refl _, Nat.lt_of_le_of_lt h (by decide), rfl⟩
theorem Digs.pos {N f m : Nat} {ds : List UInt8} (h : Digs N f m ds) (hm : 0 < m) : ∃ f', f = f' + 1 := by
  cases f with
  | zero => have := h.2.1; simp at this; omega
  | succ f => exact ⟨f, rfl⟩
theorem Digs.step {N f m : Nat} {ds : List UInt8} (h : Digs N (f + 1) m ds) (hm : 0 < m) : Digs N f (m / 10) (dch m :: ds) := by
  obtain ⟨h1, h2, h3⟩ := h
  have h' : m < 10 ^ f * 10 := by rw [← Nat.pow_succ]; exact h2
  exact ⟨by omega, ten_lt h', (dg_step f m ds hm).symm.trans h3⟩
theorem Digs.done {N f : Nat} {ds : List UInt8} (h : Digs N f 0 ds) (hN : ¬ N = 0) : ds = dig N := by
  have := h.2.2
  rw [dg_zero] at this
  rw [this, dig, if_neg hN]

theorem dig_pos (N : Nat) (h : N ≤ 1048576) (h0 : ¬ N = 0) : 0 < (dig N).length := by
  cases hd : dig N with
  | nil =>
    have := val_dig N (by omega)
    rw [hd] at this
    exact absurd this.symm h0
  | cons c r => simp

theorem elem44 : Try.prog.elem 44 = 5 := by kernel_rfl
theorem arrayLen44 : Try.prog.arrayLen 44 = 20 := by kernel_rfl
theorem size5 (w : World) : (sizeOf 5).run Try.prog w = .ok 1 w := by kernel_rfl

/-- 'd[j:]', d the array of twenty bytes in block g. -/
theorem slice_tail (w : World) (g j : Nat) (hj : j < 20) :
    (Instr.sliceAt 44 (.pointer (some ⟨g, 0, none⟩)) (some (.int .i64 j)) none none).run Try.prog w = .ok (.slice (some ⟨g, j, none⟩) (20 - j) (20 - j)) w := by
  have h44 : Try.prog.underlying 44 = some (.array (Try.prog.arrayLen 44) (Try.prog.elem 44)) := by rw [elem44, arrayLen44]; exact Try.underlying44
  rw [run_sliceAt_array_l w 44 ⟨g, 0, none⟩ h44 .i64 j (by omega) (by rw [arrayLen44]; omega), elem44, size5, arrayLen44]
  have hne : ¬ 20 = j := by omega
  have ea : (⟨g, 0, none⟩ : Addr).add j = ⟨g, j, none⟩ := by cases j <;> simp [Addr.add]
  simp [Result.andThen, slicedAt, hne, ea]

set_option maxRecDepth 100000 in
set_option maxHeartbeats 800000 in
theorem appendUint_any (B : Nat) (v : Value) (bs : List UInt8) (N : Nat) (w : World) (hown : OwnBytes B w v bs) (hN : N ≤ 1048576) (hlen : bs.length + 20 ≤ 1000000000) (hB : B ≤ w.heap.size) :
    Calls Try.prog 24 #[v, .int .i64 N] w fun e w' => RetBytes B w (bs ++ dig N) e w' := by
  obtain ⟨i0, hi, hz0, hz1, hz2⟩ := info_parts Try.info5
  by_cases h0 : N = 0
  · subst h0
    go_enter Try.func24, Try.ntmps24
    go_wp2_with (at_builtin; refine wpList_append_own _ rfl _ _ 34 rfl B 5 i0 (.int .u8 0) 1 1 Try.underlying34 hi hz0 hz1 hz2 rfl (by decide) v bs.length (u8s bs) rfl (World.ownsRow.alloc hown _) ⟨w.heap.size, 0, none⟩ 1 1 [.int .u8 48] rfl rfl (cell_one_new _ _ _) (ints_oneCell .u8 [48]) (by unfold maxLen; omega) (by omega) (by simp; omega) ?_; intro v' w1 hown1 hgrow1 _)
    go_ret
    refine ⟨v', rfl, ?_, ((Below.refl _ _).alloc hB _).grown hgrow1 (by simp; omega) (fun k hk => (own_block hown k hk).1)⟩
    show w1.ownsRow B 5 1 v' (bs ++ dig 0).length (u8s (bs ++ dig 0))
    rw [u8s_append, List.length_append]
    exact hown1
  · have hne : v.ownBlock ≠ some w.heap.size := fun h => by have := (own_block hown _ h).2; omega
    have hNN := Digs.start N hN
    have hAA := Arr.made w
    have hOO : OwnBytes B (w.alloc (.cells #[.int .u8 0, .int .u8 0, .int .u8 0, .int .u8 0, .int .u8 0, .int .u8 0, .int .u8 0, .int .u8 0, .int .u8 0, .int .u8 0, .int .u8 0, .int .u8 0, .int .u8 0, .int .u8 0, .int .u8 0, .int .u8 0, .int .u8 0, .int .u8 0, .int .u8 0, .int .u8 0] 44)) v bs := World.ownsRow.alloc hown _
    go_enter Try.func24, Try.ntmps24
    go_wp2
    go_loopw [1, 6] (fun n i wr => ∃ (f m : Nat) (ds : List UInt8), n = .int .i64 m ∧ i = .int .i64 ((13 + f : Nat) : Int) ∧ m ≤ 1048576 ∧ f ≤ 7 ∧ Digs N f m ds ∧ Arr w.heap.size wr (13 + f) ds ∧ OwnBytes B wr v bs ∧ Below B w wr) (fun n _ _ => (intOf n).toNat)
    case atStart => exact ⟨7, N, [], rfl, rfl, hN, by omega, hNN, hAA, hOO, (Below.refl _ _).alloc hB _⟩
    case round =>
      clear hNN hAA hOO
      obtain ⟨f, m, ds, rfl, rfl, hm, hf, hD, hA, hO, hbel⟩ := hrel
      by_cases hpos : 0 < m
      · obtain ⟨f', rfl⟩ := hD.pos hpos
        have hD' := hD.step hpos
        obtain ⟨u, hu⟩ := hA.cell (13 + f') (by omega)
        have hfz := hA.frozen (13 + f')
        have hA' := Arr.step (i := 13 + f') hA (dch m)
        have hO' : OwnBytes B (wr.setCell ⟨w.heap.size, 13 + f', none⟩ (.int .u8 (dch m).toNat)) v bs := ownsRow_setCell_other hO hne _
        have hbel' := hbel.setCell (p := ⟨w.heap.size, 13 + f', none⟩) (by exact hB) (.int .u8 (dch m).toNat)
        have ev : ((dch m).toNat : Int) = 48 + (m : Int) % 10 := by rw [dch_toNat]; omega
        rw [ev] at hA' hO' hbel'
        clear ev hD
        obtain ⟨j, hj⟩ : ∃ j, j = 13 + f' := ⟨_, rfl⟩
        rw [← hj] at hu hfz hA' hO' hbel'
        have ej : ((13 + (f' + 1) : Nat) : Int) = (j : Int) + 1 := by omega
        have hj20 : (j : Int) < 20 := by omega
        rw [ej]
        have HJ : Hid (j = 13 + f') := hj
        clear ej hj hA hO hbel
        go_wp2
        go_roundw
        case rel => exact ⟨f', m / 10, dch m :: ds, by go_num, by rw [← HJ.out], by omega, by omega, hD', by rw [← HJ.out]; exact hA', hO', hbel'⟩
        case measure => simp [intOf]; omega
      · have hm0 : m = 0 := by omega
        subst hm0
        have hds := hD.done h0
        have hl7 : 13 + f + ds.length = 20 := by obtain ⟨_, _, _, h3, _⟩ := hA; exact h3
        have hdl : 0 < ds.length := by rw [hds]; exact dig_pos N hN h0
        clear hD
        obtain ⟨j, hj⟩ : ∃ j, j = 13 + f := ⟨_, rfl⟩
        rw [← hj] at hA
        have hsl := fun W => slice_tail W w.heap.size j (by omega)
        have e20 : 20 - j = ds.length := by omega
        rw [e20] at hsl
        rw [← hj]
        clear e20
        have hd20 : ds.length ≤ 20 := by omega
        have HJ : Hid (j = 13 + f) := hj
        have HD : Hid (ds = dig N) := hds
        clear hj hds hl7
        go_wp2_with (at_builtin; refine wpList_append_own _ rfl _ _ 34 rfl B 5 i0 (.int .u8 0) 1 1 Try.underlying34 hi hz0 hz1 hz2 rfl (by decide) v bs.length (u8s bs) rfl hO ⟨w.heap.size, j, none⟩ ds.length ds.length (u8s ds) rfl (by simp [u8s_length]) hA.news (u8s_one ds) (by unfold maxLen; omega) (by omega) (by have := hbel.size; omega) ?_; intro v' w1 hown1 hgrow1 _)
        go_ret
        refine ⟨v', rfl, ?_, hbel.grown hgrow1 (by have := hbel.size; omega) (fun k hk => (own_block hO k hk).1)⟩
        rw [← HD.out]
        show w1.ownsRow B 5 1 v' (bs ++ ds).length (u8s (bs ++ ds))
        rw [u8s_append, List.length_append]
        exact hown1

end Go.Proofs.Qxb6602716a
