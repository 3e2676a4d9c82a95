import Derived.Test.Qxb6602695aMake
namespace Go.Proofs.Qxb6602695a
open Go.RowKit Go.Maps

/-- What the zero string reads as. -/
def z0 : DataW Unit := .lit (.string [])

/-- The elements' reader. -/
theorem elem_empty : plainElem (H := Unit) Try.prog 9 (.string ByteArray.empty) = some (z0, []) := plainElem_string Try.underlying9 (by simp)

theorem zero9 (w : World) : (zeroValue 9).run Try.prog w = .ok (.string ByteArray.empty) w := by kernel_rfl

theorem key_inv {key : Value} {kl : Lit} (h : keyOf Try.prog 9 key = some kl) : ∃ s : ByteArray, key = .string s ∧ kl = .string s.data.toList ∧ s.size ≤ maxLen := by
  cases key <;> simp [keyOf, Try.underlying9, mapKey] at h
  exact ⟨_, rfl, h.2.symm, h.1⟩

section
variable (w : World) {ops : Array Oper} {rest : List Oper} {o : Oper} {a : Act} {Q : Exit → Act → World → Prop}

/-- The step of a range over a map from strings to strings. -/
theorem wpList_next_ss (hg : o.guard = none) (it : Operand) (hop : o.op = Op.next it false) (b r n : Nat) (D : DataW Unit) (left : Lit → Bool) (cnt : Nat)
    (hit : a.eval it = .pointer (some ⟨r, 0, none⟩)) (h : w.ranges Try.prog 9 (plainElem Try.prog 9) b r n D left cnt)
    (hDone : cnt = 0 → (∀ kl, left kl = false) → wpList Try.prog ops Q rest (a.put o.dst (.tuple #[.bool false])) w)
    (hMore : ∀ (x c : ByteArray) (w' : World) (cnt' : Nat), x.size ≤ maxLen → left (.string x.data.toList) = true → (∀ zd, D.atKey (.string x.data.toList) zd = .lit (.string c.data.toList)) →
      w'.ranges Try.prog 9 (plainElem Try.prog 9) b r n D (fun z => left z && !z.sameKey (.string x.data.toList)) cnt' → cnt' < cnt →
      w.grownBy w' (some r) → (Instr.entry (.pointer (some ⟨r, 0, none⟩))).run Try.prog w' = .ok (.tuple #[.string x, .string c]) w' → wpList Try.prog ops Q rest (a.put o.dst (.tuple #[.bool true, .string x, .string c])) w') :
    wpList Try.prog ops Q (o :: rest) a w :=
  wpList_next_ranges w hg it hop 9 law (plainElem Try.prog 9) Value.string Value.string (fun key kl hkey => by obtain ⟨x, rfl, _⟩ := key_inv hkey; exact ⟨x, rfl⟩) (fun v y hv => by obtain ⟨c, rfl, _⟩ := plainElem_string_inv Try.underlying9 hv; exact ⟨c, rfl⟩)
    b r n D left cnt hit h hDone (fun x c kl y w' cnt' hkey hlk hv hat hrg hlt hgr _ hen => by
      obtain ⟨x', ex, rfl, hwx⟩ := key_inv hkey
      cases ex
      obtain ⟨c', ec, rfl, hwc⟩ := plainElem_string_inv Try.underlying9 hv
      cases ec
      exact hMore x c w' cnt' hwx hlk hat hrg hlt hgr hen)

/-- 'v, ok := m[k]', m nil or not. -/
theorem wpList_look_any (hg : o.guard = none) (m x : Operand) (t : TypeId) (hop : o.op = Op.lookup t m x true) (ht : Try.prog.underlying t = some (.map 9 9)) (v : Value) (D : DataW Unit) (hm : a.eval m = v) (hM : MapOf w v D)
    (s : ByteArray) (hs : s.size ≤ maxLen) (hx : a.eval x = .string s)
    (hK : ∀ c : ByteArray, D.atKey (.string s.data.toList) z0 = .lit (.string c.data.toList) → wpList Try.prog ops Q rest (a.put o.dst (.tuple #[.string c, .bool (Maps.has D (.string s.data.toList))])) w) :
    wpList Try.prog ops Q (o :: rest) a w := by
  have hkey := WideMaps.keyOf_string_mk Try.underlying9 hs
  rcases hM with ⟨rfl, rfl⟩ | ⟨b, n, rfl, hown⟩
  · refine wpList_plain hg fun K' hK' => ?_
    have hrun := Maps.look_nil true law ht (zero9 w) hkey
    unfold Oper.wp
    simp [execOp, hop, hm, hx, hrun, Result.andThen]
    exact hK' _ _ (hK ByteArray.empty rfl)
  · exact wpList_lookup_own_ok w hg m x t hop 9 9 law ht (plainElem Try.prog 9) (zero9 w) z0 [] elem_empty b n D hm hown _ _ hx hkey (fun v ps hv => by
      obtain ⟨c, rfl, hc, hwc⟩ := plainElem_string_inv Try.underlying9 hv
      exact hK c (congrArg Prod.fst hc))

/-- 'len(m)', m nil or not. -/
theorem wpList_len_any (hg : o.guard = none) (m : Operand) (t : TypeId) (hop : o.op = Op.call { callee := Callee.builtin Builtin.len, args := #[m], argTypes := #[t] }) (ht : Try.prog.underlying t = some (.map 9 9)) (v : Value) (D : DataW Unit) (hm : a.eval m = v) (hM : MapOf w v D)
    (hK : wpList Try.prog ops Q rest (a.put o.dst (.int .i64 (Maps.size D))) w) :
    wpList Try.prog ops Q (o :: rest) a w := by
  rcases hM with ⟨rfl, rfl⟩ | ⟨b, n, rfl, hown⟩
  · refine wpList_plain hg fun K' hK' => ?_
    unfold Oper.wp
    simp [execOp, hop, resolve, invoke, builtin, hm, Maps.len_nil ht o.type, Result.andThen]
    exact hK' _ _ hK
  · exact wpList_len_own w hg m t hop 9 9 ht _ b n D hm hown hK

end

/-- D's entries all stand in E. -/
def Within (D E : DataW Unit) : Prop := ∀ kl, Maps.has D kl = true → Maps.has E kl = true ∧ E.atKey kl z0 = D.atKey kl z0

theorem Within.refl (D : DataW Unit) : Within D D := fun _ h => ⟨h, rfl⟩
theorem Within.trans {D E F : DataW Unit} (h : Within D E) (h' : Within E F) : Within D F := fun kl hk => ⟨(h' kl (h kl hk).1).1, ((h' kl (h kl hk).1).2).trans (h kl hk).2⟩
theorem Within.empty (E : DataW Unit) : Within (.map []) E := fun _ h => by cases h

theorem canon_of {w : World} {v : Value} {D : DataW Unit} (h : MapOf w v D) : Canon D := by
  rcases h with ⟨_, rfl⟩ | ⟨b, n, _, hown⟩
  · exact canon_empty
  · exact hown.canon law

theorem key_atKey {es : List (Lit × DataW Unit)} {kl : Lit} (h : Maps.has (.map es) kl = true) (z z' : DataW Unit) : (DataW.map es).atKey kl z = (DataW.map es).atKey kl z' := by
  have h1 : es.any (fun p => p.1.sameKey kl) = true := h
  simp only [DataW.atKey]
  cases hf : es.find? (fun p => p.1.sameKey kl) with
  | some p => rfl
  | none =>
    rw [List.find?_eq_none] at hf
    obtain ⟨p, hp, hs⟩ := List.any_eq_true.1 h1
    exact absurd hs (hf p hp)

/-- Two maps that match each other are one. -/
theorem Within.antisymm {D E : DataW Unit} (cD : Canon D) (cE : Canon E) (h : Within D E) (h' : Within E D) : D = E := by
  refine Maps.ext cD cE (fun k => ?_) (fun k z hk => ?_)
  · cases hD : Maps.has D k with
    | true => exact (h k hD).1.symm
    | false =>
      cases hE : Maps.has E k with
      | false => rfl
      | true => rw [(h' k hE).1] at hD; cases hD
  · obtain ⟨hE, he⟩ := h k hk
    obtain ⟨es, rfl, _⟩ := cD
    obtain ⟨fs, rfl, _⟩ := cE
    rw [key_atKey hk z z0, ← he, key_atKey hE z0 z]

theorem Within.of_empty {D : DataW Unit} (c : Canon D) : Within D (.map []) ↔ Maps.size D = 0 := by
  obtain ⟨es, rfl, _, hk⟩ := c
  constructor
  · intro h
    cases es with
    | nil => rfl
    | cons p r =>
      have h1 : Maps.has (DataW.map (p :: r)) p.1 = true := List.any_eq_true.2 ⟨p, by simp, WideAt.sameKey_self (hk p (by simp))⟩
      have := (h p.1 h1).1
      cases this
  · intro h
    have : es = [] := List.length_eq_zero_iff.1 h
    subst this
    exact Within.empty _

end Go.Proofs.Qxb6602695a
