import Derived.Test.Qxb6602695aMaps
namespace Go.Proofs.Qxb6602695a
open Go.RowKit Go.Maps

theorem owns_below {w w1 : World} {b n : Nat} {D : DataW Unit} (h : w.ownsMap Try.prog 9 (plainElem Try.prog 9) b n D) (hb : Below w.heap.size w w1) : w1.ownsMap Try.prog 9 (plainElem Try.prog 9) b n D := by
  have hlt := h.lt
  obtain ⟨es, clock, h1, r⟩ := h
  exact ⟨es, clock, (hb.block b hlt).trans h1, r⟩

theorem MapOf.below {w w1 : World} {v : Value} {D : DataW Unit} (h : MapOf w v D) (hb : Below w.heap.size w w1) : MapOf w1 v D := by
  rcases h with h | ⟨b, n, h1, h2⟩
  · exact .inl h
  · exact .inr ⟨b, n, h1, owns_below h2 hb⟩

/-- It returned whether D's entries all stand in E. -/
def RetWithin (D E : DataW Unit) (e : Ending) : Prop := ∃ r, e = .returned (.bool r) ∧ (r = true ↔ Within D E)

/-- Every entry of D that is no longer to come stands in E. -/
def Seen (D E : DataW Unit) (left : Lit → Bool) : Prop := (∀ kl, left kl = true → Maps.has D kl = true) ∧ ∀ kl, Maps.has D kl = true → left kl = false → Maps.has E kl = true ∧ E.atKey kl z0 = D.atKey kl z0

theorem Seen.start (D E : DataW Unit) : Seen D E (Maps.has D) := ⟨fun _ h => h, fun kl h h' => by rw [h] at h'; cases h'⟩
theorem Seen.done {D E : DataW Unit} {left : Lit → Bool} (h : Seen D E left) (hl : ∀ kl, left kl = false) : Within D E := fun kl hk => h.2 kl hk (hl kl)

/-- The entry at kl has come, and stands in E. -/
theorem Seen.step {D E : DataW Unit} {left : Lit → Bool} {kl : Lit} {c c2 : ByteArray} (h : Seen D E left) (hE : Maps.has E kl = true) (hat : ∀ zd, D.atKey kl zd = .lit (.string c.data.toList)) (hat2 : E.atKey kl z0 = .lit (.string c2.data.toList)) (he : (!c2.toList == c.toList) = false) :
    Seen D E (fun z => left z && !z.sameKey kl) := by
  have e : c2.data.toList = c.data.toList := by
    rw [ByteArray.toList_eq, ByteArray.toList_eq] at he
    simpa using he
  refine ⟨fun k hk => h.1 k (by simp at hk; exact hk.1), fun k hD hk => ?_⟩
  cases hl : left k with
  | false => exact h.2 k hD hl
  | true =>
    have hk' : (left k && !k.sameKey kl) = false := hk
    rw [hl] at hk'
    have hs : k.sameKey kl = true := by simpa using hk'
    rw [WideAt.sameKey_eq hs]
    exact ⟨hE, by rw [hat2, hat, e]⟩

/-- The entry at kl has come, and stands not in E. -/
theorem not_within {D E : DataW Unit} {left : Lit → Bool} {kl : Lit} (h : Seen D E left) (hl : left kl = true) (hE : ¬ Maps.has E kl = true) : ¬ Within D E := fun hs => hE (hs kl (h.1 kl hl)).1
theorem not_within' {D E : DataW Unit} {left : Lit → Bool} {kl : Lit} {c c2 : ByteArray} (h : Seen D E left) (hl : left kl = true) (hat : ∀ zd, D.atKey kl zd = .lit (.string c.data.toList)) (hat2 : E.atKey kl z0 = .lit (.string c2.data.toList)) (he : (!c2.toList == c.toList) = true) : ¬ Within D E := fun hs => by
  have h1 := (hs kl (h.1 kl hl)).2
  rw [hat, hat2] at h1
  simp only [DataW.lit.injEq, Lit.string.injEq] at h1
  rw [ByteArray.toList_eq, ByteArray.toList_eq, h1] at he
  simp at he

set_option maxRecDepth 100000 in
set_option maxHeartbeats 800000 in
theorem matches_any (v1 v2 : Value) (D E : DataW Unit) (w : World) (h1 : MapOf w v1 D) (h2 : MapOf w v2 E) :
    Calls Try.prog 8 #[.agg #[], v1, v2] w fun e w' => RetWithin D E e ∧ Below w.heap.size w w' := by
  rcases h1 with ⟨rfl, rfl⟩ | ⟨b, n, rfl, hown⟩
  · have hrg : ∀ wx : World, (Instr.range 34 (.map none)).run Try.prog wx = _ := fun wx => run_range_nilMap wx 34 9 9 Try.underlying34
    have hnx : ∀ ty, (Instr.next (.pointer (some ⟨(w.alloc (.cells #[] 32)).heap.size, 0, none⟩)) false ty).run Try.prog ((w.alloc (.cells #[] 32)).alloc (.mapIter none 0 #[] 0)) = _ := fun ty => run_next_nilMap _ ty 0 0 #[]
    have e1 : (w.alloc (.cells #[] 32)).heap.size = w.heap.size + 1 := by simp
    rw [e1] at hnx
    clear e1
    go_enter Try.func8, Try.ntmps8
    go_wp2
    refine wp_loop_rounds 1 ?_
    rw [rounds_succ]
    go_wp2
    go_ret
    exact ⟨⟨true, rfl, by simp [Within.empty]⟩, ((Below.refl _ _).alloc (Nat.le_refl _) _).alloc (by simp) _⟩
  · go_enter Try.func8, Try.ntmps8
    go_wp2_with (first | (at_range; refine wpList_range_own _ rfl _ 34 rfl 9 9 law Try.underlying34 _ b n D rfl (hown.alloc _) ?_; intro wa hrg0 hg0 hs0))
    go_frame
    have e1 : (w.alloc (.cells #[] 32)).heap.size = w.heap.size + 1 := by simp
    rw [e1] at hrg0
    rw [e1]
    have hB0 : Below w.heap.size w wa := ((Below.refl _ _).alloc (Nat.le_refl _) _).grown hg0 (by simp) (by simp)
    clear hg0 hs0 e1
    go_loopw [7] (fun _ wr => ∃ left cnt, wr.ranges Try.prog 9 (plainElem Try.prog 9) b (w.heap.size + 1) n D left cnt ∧ Seen D E left ∧ Below w.heap.size w wr) (fun _ wr => wr.rangeLeft b (w.heap.size + 1))
    case atStart => exact ⟨_, _, hrg0, Seen.start D E, hB0⟩
    case round =>
      clear hrg0 hB0
      obtain ⟨left, cnt, hrg, hseen, hB⟩ := hrel
      go_wp2_with (first
        | (at_next; refine wpList_next_ss _ rfl _ rfl b (w.heap.size + 1) n D left cnt rfl hrg ?_ ?_))
      · intro _ hl0
        go_wp2_with fail
        go_ret
        exact ⟨⟨true, rfl, by simp [hseen.done hl0]⟩, hB⟩
      · intro x c w1 cnt1 hxs hlx hat hrg1 hlt hg1 hen
        have hB1 : Below w.heap.size w w1 := hB.grown hg1 hB.size (fun j hj => by cases hj; omega)
        clear hg1
        go_wp2_with (first
          | (at_lookup; refine wpList_look_any _ rfl _ _ 34 rfl Try.underlying34 _ E rfl (h2.below hB1) x hxs rfl ?_; intro c2 hat2))
        · have ht : (!c2.toList == c.toList) = true := by assumption
          go_ret
          exact ⟨⟨false, rfl, by simp [not_within' hseen hlx hat hat2 ht]⟩, hB1⟩
        · have ht : (!c2.toList == c.toList) = false := by assumption
          have hE : has E (Lit.string x.data.toList) = true := by assumption
          go_roundw
          case rel => exact ⟨_, _, hrg1, hseen.step hE hat hat2 ht, hB1⟩
          case measure => rw [hrg1.left_eq, hrg.left_eq]; exact hlt
        · have hE : ¬ has E (Lit.string x.data.toList) = true := by assumption
          go_ret
          exact ⟨⟨false, rfl, by simp [not_within hseen hlx hE]⟩, hB1⟩

set_option maxHeartbeats 400000 in
theorem ZZmatches_any (v1 v2 : Value) (D E : DataW Unit) (w : World) (h1 : MapOf w v1 D) (h2 : MapOf w v2 E) :
    Calls Try.prog 7 #[v1, v2] w fun e w' => RetWithin D E e ∧ Below w.heap.size w w' := by
  go_enter Try.func7, Try.ntmps7
  go_wp2_with (go_at_call 8; refine (matches_any v1 v2 D E _ h1 h2).mono ?_; rintro e w' ⟨⟨r, rfl, hr⟩, hb⟩)
  go_ret
  exact ⟨⟨_, rfl, by assumption⟩, by assumption⟩

end Go.Proofs.Qxb6602695a
