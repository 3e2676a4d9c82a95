import Derived.Test.Qxb6602716aFields
namespace Go.Proofs.Qxb6602716a

/-! The encoding as plain lists of bytes, and why it tells two lists of strings apart. -/

/-- The last decimal digit of n, as a byte of text. -/
def dch (n : Nat) : UInt8 := UInt8.ofNat (48 + n % 10)
theorem dch_toNat (n : Nat) : (dch n).toNat = 48 + n % 10 := by
  unfold dch
  rw [UInt8.toNat_ofNat']
  omega

/-- The digits of n ahead of acc, at most f of them. -/
def dg : Nat → Nat → List UInt8 → List UInt8
  | 0, _, acc => acc
  | f + 1, n, acc => if n = 0 then acc else dg f (n / 10) (dch n :: acc)

theorem dg_zero (f : Nat) (acc : List UInt8) : dg f 0 acc = acc := by cases f <;> simp [dg]
theorem dg_step (f n : Nat) (acc : List UInt8) (h : 0 < n) : dg (f + 1) n acc = dg f (n / 10) (dch n :: acc) := by
  simp only [dg]
  rw [if_neg (by omega)]

/-- The decimal text of n (n below ten million). -/
def dig (n : Nat) : List UInt8 := if n = 0 then [48] else dg 7 n []

/-- The number that a text of digits says. -/
def val (a : Nat) : List UInt8 → Nat
  | [] => a
  | c :: r => val (a * 10 + (c.toNat - 48)) r

theorem ten_step (n : Nat) : n / 10 * 10 + (48 + n % 10 - 48) = n := by omega
theorem ten_lt {n m : Nat} (h : n < m * 10) : n / 10 < m := by omega

theorem val_dg (f n : Nat) (acc : List UInt8) (h : n < 10 ^ f) : val 0 (dg f n acc) = val n acc := by
  induction f generalizing n acc with
  | zero =>
    have : n = 0 := by simp at h; exact h
    subst this; rfl
  | succ f ih =>
    by_cases h0 : n = 0
    · subst h0; rw [dg_zero]
    · have h' : n < 10 ^ f * 10 := by rw [← Nat.pow_succ]; exact h
      have h1 := ih (n / 10) (dch n :: acc) (ten_lt h')
      have h2 : val (n / 10) (dch n :: acc) = val (n / 10 * 10 + ((dch n).toNat - 48)) acc := rfl
      have h3 : n / 10 * 10 + ((dch n).toNat - 48) = n := by rw [dch_toNat]; exact ten_step n
      have h4 := dg_step f n acc (Nat.pos_of_ne_zero h0)
      rw [h3] at h2
      exact (congrArg (val 0) h4).trans (h1.trans h2)

theorem val_dig (n : Nat) (h : n < 10000000) : val 0 (dig n) = n := by
  unfold dig
  by_cases h0 : n = 0
  · subst h0; rfl
  · rw [if_neg h0, val_dg 7 n [] (by omega)]; rfl

theorem dig_inj {m n : Nat} (hm : m < 10000000) (hn : n < 10000000) (h : dig m = dig n) : m = n := by
  rw [← val_dig m hm, ← val_dig n hn, h]

theorem dg_free (f n : Nat) (acc : List UInt8) (h : ∀ c ∈ acc, c ≠ 58) : ∀ c ∈ dg f n acc, c ≠ 58 := by
  induction f generalizing n acc with
  | zero => exact h
  | succ f ih =>
    by_cases h0 : n = 0
    · subst h0; rw [dg_zero]; exact h
    · rw [dg_step f n acc (by omega)]
      refine ih _ _ (fun c hc => ?_)
      rcases List.mem_cons.1 hc with rfl | hc
      · intro e
        have := congrArg UInt8.toNat e
        rw [dch_toNat] at this
        have h58 : (58 : UInt8).toNat = 58 := rfl
        omega
      · exact h c hc

theorem dig_free (n : Nat) : ∀ c ∈ dig n, c ≠ 58 := by
  unfold dig
  by_cases h0 : n = 0
  · rw [if_pos h0]; intro c hc; simp at hc; subst hc; decide
  · rw [if_neg h0]; exact dg_free _ _ _ (by simp)

theorem dg_length (f n : Nat) (acc : List UInt8) : (dg f n acc).length ≤ f + acc.length := by
  induction f generalizing n acc with
  | zero => simp [dg]
  | succ f ih =>
    by_cases h0 : n = 0
    · subst h0; rw [dg_zero]; omega
    · rw [dg_step f n acc (by omega)]
      have := ih (n / 10) (dch n :: acc)
      simp only [List.length_cons] at this
      omega
theorem dig_length (n : Nat) : (dig n).length ≤ 7 := by
  unfold dig
  by_cases h0 : n = 0
  · rw [if_pos h0]; simp
  · rw [if_neg h0]; have := dg_length 7 n []; simpa using this

/-- One field's text: its length, a colon, its bytes. -/
def enc1 (s : ByteArray) : List UInt8 := dig s.size ++ 58 :: s.data.toList
/-- The whole list's text. -/
def encAll : List ByteArray → List UInt8
  | [] => []
  | s :: r => enc1 s ++ encAll r

theorem split_colon : ∀ {d1 d2 t1 t2 : List UInt8}, (∀ c ∈ d1, c ≠ 58) → (∀ c ∈ d2, c ≠ 58) → d1 ++ 58 :: t1 = d2 ++ 58 :: t2 → d1 = d2 ∧ t1 = t2
  | [], [], _, _, _, _, h => ⟨rfl, by simpa using h⟩
  | [], c :: r, _, _, _, h2, h => by
    simp only [List.nil_append, List.cons_append, List.cons.injEq] at h
    exact absurd h.1.symm (h2 c (by simp))
  | c :: r, [], _, _, h1, _, h => by
    simp only [List.nil_append, List.cons_append, List.cons.injEq] at h
    exact absurd h.1 (h1 c (by simp))
  | c :: r, c' :: r', _, _, h1, h2, h => by
    simp only [List.cons_append, List.cons.injEq] at h
    obtain ⟨e, ht⟩ := split_colon (fun x hx => h1 x (by simp [hx])) (fun x hx => h2 x (by simp [hx])) h.2
    exact ⟨by rw [h.1, e], ht⟩

theorem length_data (s : ByteArray) : s.data.toList.length = s.size := by
  rw [Array.length_toList]; rfl

theorem encAll_inj : ∀ {p q : List ByteArray}, tot p ≤ 1048576 → tot q ≤ 1048576 → encAll p = encAll q → p = q
  | [], [], _, _, _ => rfl
  | [], s :: r, _, _, h => by simp [encAll, enc1] at h
  | s :: r, [], _, _, h => by simp [encAll, enc1] at h
  | s :: r, s' :: r', hp, hq, h => by
    simp only [tot] at hp hq
    simp only [encAll, enc1, List.append_assoc, List.cons_append] at h
    obtain ⟨hd, ht⟩ := split_colon (dig_free _) (dig_free _) h
    have hs : s.size = s'.size := dig_inj (by omega) (by omega) hd
    obtain ⟨h1, h2⟩ := List.append_inj ht (by rw [length_data, length_data, hs])
    have e : s = s' := by
      cases s; cases s'
      simp at h1
      rw [h1]
    rw [e, encAll_inj (by omega) (by omega) h2]

theorem encAll_iff {p q : List ByteArray} (hp : tot p ≤ 1048576) (hq : tot q ≤ 1048576) : encAll p = encAll q ↔ p = q := ⟨encAll_inj hp hq, fun h => by rw [h]⟩

theorem encAll_append (p q : List ByteArray) : encAll (p ++ q) = encAll p ++ encAll q := by
  induction p with
  | nil => rfl
  | cons s r ih => simp [encAll, ih]

theorem encAll_take (ss : List ByteArray) (k : Nat) (hk : k < ss.length) : encAll (ss.take (k + 1)) = encAll (ss.take k) ++ enc1 (ss.getD k ByteArray.empty) := by
  rw [List.take_succ_eq_append_getElem hk, encAll_append]
  simp [encAll, List.getD_eq_getElem?_getD, List.getElem?_eq_getElem hk]

theorem encAll_length (ss : List ByteArray) : (encAll ss).length ≤ tot ss + 8 * ss.length := by
  induction ss with
  | nil => simp [encAll]
  | cons s r ih =>
    have := dig_length s.size
    simp only [encAll, enc1, tot, List.length_append, List.length_cons, length_data]
    omega

theorem tot_take_le (ss : List ByteArray) (k : Nat) : tot (ss.take k) ≤ tot ss := by
  induction ss generalizing k with
  | nil => simp [tot]
  | cons s r ih =>
    cases k with
    | zero => simp [tot]
    | succ k => have := ih k; simp only [List.take_succ_cons, tot]; omega

theorem size_le_tot (ss : List ByteArray) (k : Nat) : (ss.getD k ByteArray.empty).size ≤ tot ss := by
  induction ss generalizing k with
  | nil => simp
  | cons s r ih =>
    cases k with
    | zero => simp [tot]
    | succ k => have := ih k; simp only [List.getD_cons_succ, tot]; omega

end Go.Proofs.Qxb6602716a
