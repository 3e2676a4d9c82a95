import Derived.Test.Qxb6602716aUint
namespace Go.Proofs.Qxb6602716a
open Go.RowKit

theorem own_enc1 {B : Nat} {w : World} {v : Value} {bs : List UInt8} {x : ByteArray} (h : w.ownsRow B 5 1 v ((bs ++ dig x.size).length + 1 + x.size) ((u8s (bs ++ dig x.size) ++ [.int .u8 58]) ++ Lib.strCells x)) : OwnBytes B w v (bs ++ enc1 x) := by
  show w.ownsRow B 5 1 v (bs ++ enc1 x).length (u8s (bs ++ enc1 x))
  have e1 : (bs ++ enc1 x).length = (bs ++ dig x.size).length + 1 + x.size := by
    simp only [enc1, List.length_append, List.length_cons, length_data]; omega
  have e2 : u8s (bs ++ enc1 x) = (u8s (bs ++ dig x.size) ++ [.int .u8 58]) ++ Lib.strCells x := by
    simp [u8s, enc1, Lib.strCells]
  rw [e1, e2]
  exact h

set_option maxRecDepth 100000 in
set_option maxHeartbeats 800000 in
theorem encode_any (ao : Option Addr) (len cap : Nat) (ss : List ByteArray) (w : World) (hS : Strs w ao len ss) (hm : len ≤ 65536) (ht : tot ss ≤ 1048576) :
    Calls Try.prog 19 #[.slice ao len cap] w fun e w' => RetBytes w.heap.size w (encAll ss) e w' := by
  obtain ⟨i0, hi, hz0, hz1, hz2⟩ := info_parts Try.info5
  go_enter Try.func19, Try.ntmps19
  go_wp2_with fail
  go_loopw [3, 4] (fun v i wr => ∃ k : Nat, k ≤ len ∧ i = .int .i64 k ∧ OwnBytes w.heap.size wr v (encAll (ss.take k)) ∧ Below w.heap.size w wr) (fun _ i _ => len - (intOf i).toNat)
  case atStart => exact ⟨0, by omega, rfl, World.ownsRow_nil _ _ _ _, Below.refl _ _⟩
  case round =>
    obtain ⟨k, hk, rfl, hO, hB⟩ := hrel
    by_cases hlt : k < len
    · obtain ⟨b, off, had, hb, hc⟩ := hS.2 (by omega)
      subst had
      have hck := (hB.cell (by exact hb)).trans (hc k hlt)
      have hxs := size_le_tot ss k
      have HE : Hid (encAll (ss.take (k + 1)) = encAll (ss.take k) ++ enc1 (ss.getD k ByteArray.empty)) := encAll_take ss k (by rw [hS.1]; exact hlt)
      have hel := encAll_length (ss.take k)
      have htk := tot_take_le ss k
      have hlk : (ss.take k).length ≤ 65536 := by rw [List.length_take]; omega
      have hc' := hc k hlt
      generalize ss.getD k ByteArray.empty = x at hck hc' hxs HE
      have hbl : (encAll (ss.take k)).length ≤ 2000000 := by omega
      generalize encAll (ss.take k) = bs at hO HE hbl
      clear hel htk hlk hc
      go_wp2_with fail
      refine (appendUint_any w.heap.size u3 bs x.size _ hO (by omega) (by omega) hB.size).mono ?_
      rintro e w1 ⟨v1, rfl, hO1, hB1⟩
      replace hB1 := hB.trans hB1
      have hdl := dig_length x.size
      have hl1 : (bs ++ dig x.size).length ≤ 2000007 := by rw [List.length_append]; omega
      have hx1 : x.size ≤ 1048576 := by omega
      clear hO hck hB hdl hxs
      go_wp2_with (first
        | (at_builtin; refine wpList_append_own _ rfl (.tmp 18) (.tmp 19) 34 rfl w.heap.size 5 i0 (.int .u8 0) 1 1 Try.underlying34 hi hz0 hz1 hz2 rfl (by decide) v1 (bs ++ dig x.size).length (u8s (bs ++ dig x.size)) rfl (World.ownsRow.alloc hO1 _) ⟨w1.heap.size, 0, none⟩ 1 1 [.int .u8 58] rfl rfl (cell_one_new _ _ _) (ints_oneCell .u8 [58]) (by unfold maxLen; omega) (by omega) (by have := hB1.size; simp; omega) ?_; intro v2 w2 hown2 hgrow2 _; have hB2 : Below w.heap.size w w2 := (hB1.alloc hB1.size _).grown hgrow2 (by have := hB1.size; simp; omega) (fun k hk => (own_block hO1 k hk).1); have hck2 := (hB2.cell (by exact hb)).trans hc')
        | (at_builtin; refine Lib.wpList_append_own_string _ rfl (.tmp 21) (.tmp 25) 34 9 rfl w.heap.size 5 i0 Try.underlying34 Try.underlying9 hi hz0 hz1 hz2 v2 ((bs ++ dig x.size).length + 1) (u8s (bs ++ dig x.size) ++ [.int .u8 58]) rfl hown2 x rfl (by unfold maxLen; omega) (by omega) hB2.size ?_; intro v3 w3 hown3 hgrow3 _))
      have hB3 : Below w.heap.size w w3 := hB2.grown hgrow3 hB2.size (fun k hk => (own_block hown2 k hk).1)
      go_roundw
      case rel => exact ⟨k + 1, by omega, by go_num, by rw [HE.out]; exact own_enc1 hown3, hB3⟩
      case measure => simp [intOf]; omega
    · have hkl : k = len := by omega
      subst hkl
      have hts : ss.take k = ss := List.take_of_length_le (by rw [hS.1]; omega)
      rw [hts] at hO
      clear hts
      go_wp2_with fail
      go_ret
      exact ⟨_, rfl, hO, hB⟩

/-- What a walk is told of a slice of bytes: its elements are bs, in the world w. -/
def Row8 (w : World) (ao : Option Addr) (len : Nat) (bs : List UInt8) : Prop :=
  bs.length = len ∧ (0 < len → ∃ b off, ao = some ⟨b, off, none⟩ ∧ b < w.heap.size ∧ ∀ i, i < len → w.cell? ⟨b, off + i, none⟩ = some (.int .u8 (bs.getD i 0).toNat))

theorem Row8.below {w w1 : World} {ao : Option Addr} {len : Nat} {bs : List UInt8} (h : Row8 w ao len bs) (hb : Below w.heap.size w w1) : Row8 w1 ao len bs := by
  refine ⟨h.1, fun h0 => ?_⟩
  obtain ⟨b, off, h1, h2, h3⟩ := h.2 h0
  exact ⟨b, off, h1, Nat.lt_of_lt_of_le h2 hb.size, fun i hi => (hb.cell (by exact h2)).trans (h3 i hi)⟩

theorem OwnBytes.row {B : Nat} {w : World} {v : Value} {bs : List UInt8} (h : OwnBytes B w v bs) : ∃ ao cap, v = .slice ao bs.length cap ∧ Row8 w ao bs.length bs := by
  have h' : w.ownsRow B 5 1 v bs.length (u8s bs) := h
  rcases h'.2 with ⟨hv, hn⟩ | ⟨g, cap, cur, hv, _, hg, _⟩
  · exact ⟨none, 0, by rw [hv, hn], rfl, fun h0 => by omega⟩
  · subst hv
    refine ⟨_, cap, rfl, rfl, fun h0 => ⟨g, 0, rfl, (Array.getElem?_eq_some_iff.1 hg).1, fun i hi => ?_⟩⟩
    rw [Nat.zero_add, h'.cellAt i (by omega)]
    simp [u8s, List.getD_eq_getElem?_getD, List.getElem?_eq_getElem hi]

/-- It returned whether the two texts are one. -/
def RetSame8 (p q : List UInt8) (e : Ending) : Prop := ∃ r, e = .returned (.bool r) ∧ (r = true ↔ p = q)
theorem RetSame8.yes {p q : List UInt8} (h : p = q) : RetSame8 p q (.returned (.bool true)) := ⟨true, rfl, by simp [h]⟩
theorem RetSame8.no {p q : List UInt8} (h : ¬ p = q) : RetSame8 p q (.returned (.bool false)) := ⟨false, rfl, by simp [h]⟩

/-- The first k bytes of the two texts are the same. -/
def Agrees8 (p q : List UInt8) (k : Nat) : Prop := ∀ j, j < k → p.getD j 0 = q.getD j 0
theorem Agrees8.all {p q : List UInt8} (hl : p.length = q.length) (h : Agrees8 p q p.length) : p = q := by
  apply List.ext_getElem hl
  intro i h1 h2
  have := h i h1
  simpa [List.getD_eq_getElem?_getD, List.getElem?_eq_getElem h1, List.getElem?_eq_getElem h2] using this
theorem Agrees8.step {p q : List UInt8} {k : Nat} (h : Agrees8 p q k) (he : p.getD k 0 = q.getD k 0) : Agrees8 p q (k + 1) := fun j hj => by
  by_cases e : j = k
  · rw [e]; exact he
  · exact h j (by omega)

set_option maxRecDepth 100000 in
set_option maxHeartbeats 400000 in
theorem sameBytes_any (ao bo : Option Addr) (la lb ca cb : Nat) (p q : List UInt8) (w : World) (hp : Row8 w ao la p) (hq : Row8 w bo lb q) (hm : la ≤ 1000000000) :
    Calls Try.prog 18 #[.slice ao la ca, .slice bo lb cb] w fun e w' => RetSame8 p q e ∧ Below w.heap.size w w' := by
  by_cases hl : la = lb
  · subst hl
    go_enter Try.func18, Try.ntmps18
    go_wp2
    go_loopw [5] (fun i wr => ∃ k : Nat, k ≤ la ∧ i = .int .i64 k ∧ Agrees8 p q k ∧ Below w.heap.size w wr) (fun i _ => la - (intOf i).toNat)
    case atStart => exact ⟨0, by omega, rfl, fun j hj => by omega, Below.refl _ _⟩
    case round =>
      obtain ⟨k, hk, rfl, hag, hB⟩ := hrel
      by_cases hlt : k < la
      · obtain ⟨b, off, had, hb, hc⟩ := hp.2 (by omega)
        obtain ⟨b', off', had', hb', hc'⟩ := hq.2 (by omega)
        subst had
        subst had'
        have hck := (hB.cell (by exact hb)).trans (hc k hlt)
        have hck' := (hB.cell (by exact hb')).trans (hc' k hlt)
        obtain ⟨x, hx⟩ : ∃ x, x = p.getD k 0 := ⟨_, rfl⟩
        obtain ⟨y, hy⟩ : ∃ y, y = q.getD k 0 := ⟨_, rfl⟩
        rw [← hx] at hck
        rw [← hy] at hck'
        have HX : Hid (x = p.getD k 0) := hx
        have HY : Hid (y = q.getD k 0) := hy
        have hkI : (k : Int) < (la : Int) := by omega
        clear hc hc' hx hy
        go_wp2
        go_quiet (fail)
        go_wp2
        · have ht : ((x.toNat : Int) != (y.toNat : Int)) = true := by assumption
          go_ret
          refine ⟨RetSame8.no (fun h => ?_), below_drewN hB _⟩
          have e : x = y := by rw [HX.out, HY.out, h]
          rw [e] at ht
          simp at ht
        · have ht : ((x.toNat : Int) != (y.toNat : Int)) = false := by assumption
          have e : x = y := by
            have h1 : (x.toNat : Int) = (y.toNat : Int) := by simpa using ht
            exact UInt8.toNat_inj.1 (by omega)
          go_roundw
          case rel => exact ⟨k + 1, by omega, by go_num, hag.step (by rw [← HX.out, ← HY.out]; exact e), below_drewN hB _⟩
          case measure => simp [intOf]; omega
      · have hkl : k = la := by omega
        subst hkl
        go_wp2
        go_ret
        exact ⟨RetSame8.yes (Agrees8.all (hp.1.trans hq.1.symm) (by rw [hp.1]; exact hag)), hB⟩
  · have hd : ((la : Int) != (lb : Int)) = true := by rw [bne_iff_ne]; omega
    go_enter Try.func18, Try.ntmps18
    go_wp2
    go_ret
    exact ⟨RetSame8.no (fun h => hl (by rw [← hp.1, ← hq.1, h])), Below.refl _ _⟩

end Go.Proofs.Qxb6602716a
