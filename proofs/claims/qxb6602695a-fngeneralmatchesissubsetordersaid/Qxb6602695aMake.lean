import Derived.Test.Qxb6602695aAttr
import Derived.Maps.RangeWalk
import Derived.Maps.StringElems
import Derived.Maps.Ext
import Derived.BigRegion
import Derived.RegionTactic
namespace Go.Proofs.Qxb6602695a
open Go.RowKit Go.Maps

theorem law : Keyed Try.prog 9 := string_keyed Try.underlying9

/-- The value v is a map from strings to strings that reads as D: nil (as the empty one), or a block. -/
def MapOf (w : World) (v : Value) (D : DataW Unit) : Prop :=
  (v = .map none ∧ D = .map []) ∨ ∃ b n, v = .map (some b) ∧ w.ownsMap Try.prog 9 (plainElem Try.prog 9) b n D

theorem run_makeMap_hint (n : Int) (w : World) : (Instr.makeMap 25 (some (.int .i64 n))).run Try.prog w = .ok (.map (some w.heap.size)) (w.alloc (.map #[] 0)) := by
  simp [Instr.makeMap, run_underlying Try.underlying25, asInt, asIntOf]

/-- It returned a map, whatever it holds; nothing old has turned. -/
def RetMap (w : World) (e : Ending) (w' : World) : Prop := ∃ v D, e = .returned v ∧ MapOf w' v D ∧ Below w.heap.size w w'

set_option maxRecDepth 100000 in
set_option maxHeartbeats 800000 in
theorem identity_any (ao : Option Addr) (len cap : Nat) (nm vl : Nat → ByteArray) (w : World) (hS : Attrs w ao len nm vl) (hm : len ≤ maxLen) (hnil : ao = none → len = 0 ∧ cap = 0) :
    Calls Try.prog 6 #[.slice ao len cap] w fun e w' => RetMap w e w' := by
  have hm' := hm
  unfold maxLen at hm'
  have hn : ∀ (w : World) (a : Option Addr) (n c n' c' : Nat), (binOp .eql 22 (.slice a n c) (.slice none n' c')).run Try.prog w = .ok (.bool a.isNone) w := fun w a n c n' c' => Lib.run_eql_slice_nil w _ _ a n c n' c' Try.underlying22
  have hmk := run_makeMap_hint
  cases ao with
  | none =>
    obtain ⟨rfl, rfl⟩ := hnil rfl
    go_enter Try.func6, Try.ntmps6
    go_wp2
    go_ret
    exact ⟨_, _, rfl, .inl ⟨rfl, rfl⟩, Below.refl _ _⟩
  | some ad =>
    go_enter Try.func6, Try.ntmps6
    go_wp2
    go_loopw [4] (fun i wr => ∃ k : Nat, k ≤ len ∧ i = .int .i64 k ∧ (∃ D : DataW Unit, wr.ownsMap Try.prog 9 (plainElem Try.prog 9) w.heap.size k D) ∧ Below w.heap.size w wr) (fun i _ => len - (intOf i).toNat)
    case atStart => exact ⟨0, by omega, rfl, ⟨_, World.ownsMap_made _ _ _ _⟩, (Below.refl _ _).alloc (Nat.le_refl _) _⟩
    case round =>
      obtain ⟨k, hk, rfl, ⟨D, hown⟩, hB⟩ := hrel
      by_cases hlt : k < len
      · obtain ⟨b, off, had, hb, hc⟩ := hS.2 (by omega)
        simp only [Option.some.injEq] at had
        subst had
        have hc1 := (hB.cell (by exact hb)).trans (hc k hlt).1
        have hc2 := (hB.cell (by exact hb)).trans (hc k hlt).2
        have hx := (hS.1 k).1
        have hy := (hS.1 k).2
        generalize nm k = x at hc1 hx
        generalize vl k = y at hc2 hy
        have hkI : (k : Int) < (len : Int) := by omega
        clear hc
        obtain ⟨w1, hrun, hown1, hgrow⟩ := hown.drew.update law Try.underlying25 (by omega) (Go.WideMaps.keyOf_string_mk Try.underlying9 hx) (plainElem_string Try.underlying9 hy)
        go_wp2
        go_region
        have hB1 : Below w.heap.size w w1 := hB.drew.grown hgrow hB.size (fun j hj => by cases hj; exact Nat.le_refl _)
        clear hrun hgrow hown
        go_wp2
        go_roundw
        case rel => exact ⟨k + 1, by omega, by go_num, ⟨_, hown1⟩, hB1⟩
        case measure => simp [intOf]; omega
      · go_wp2
        go_ret; exact ⟨_, _, rfl, .inr ⟨_, _, rfl, hown⟩, hB⟩

end Go.Proofs.Qxb6602695a
