/-
  THE MAP OF NAMES, AND (Trip).String at the three rules.
-/
import Derived.Test.Qxb6612870aDoorShelf
import Derived.Test.Qxb6612870aDoorRows
import Derived.WalkKit
import Derived.WalkSpells
import Derived.Outline
import Derived.Maps.OwnSet
import Derived.Maps.StringElems
namespace Go.Proofs.Qxb6612870aDoor
open Go.RowKit Go.Maps
set_option linter.unusedVariables false

/-- The rule's name. -/
def nameOf (t : Int) : List UInt8 :=
  if t = 1 then [99, 111, 110, 115, 101, 99, 117, 116, 105, 118, 101] else if t = 2 then [114, 97, 116, 101] else [98, 117, 100, 103, 101, 116]

/-- A rule's number. -/
def IsTrip (t : Int) : Prop := t = 1 ∨ t = 2 ∨ t = 3

/-- THE VARIABLE tripNames HOLDS THE MAP THAT THE TEXT LAYS. -/
structure Names (w : World) (bm : Nat) : Prop where
  cell : w.cell? ⟨0, 0, none⟩ = some (.map (some bm))
  zero : 0 < w.heap.size
  lt : bm < w.heap.size
  own : ∃ n, w.ownsMap (H := Unit) Tryd.prog 26 (plainElem Tryd.prog 9) bm n Rows.laid_example_com_tripline_tripline_tripNames

theorem Names.below {w w' : World} {bm : Nat} (h : Names w bm) (hb : Below w.heap.size w w') : Names w' bm := by
  refine ⟨(hb.cell h.zero).trans h.cell, Nat.lt_of_lt_of_le h.zero hb.size, Nat.lt_of_lt_of_le h.lt hb.size, ?_⟩
  obtain ⟨n, es, clock, hbk, F, hs, hD⟩ := h.own
  exact ⟨n, es, clock, (hb.block bm h.lt).trans hbk, F, hs, hD⟩

theorem keyed : Keyed Tryd.prog 26 := int_keyed Tryd.underlying26
theorem zero9 (w : World) : (zeroValue 9).run Tryd.prog w = .ok (.string ⟨#[]⟩) w := by kernel_rfl

theorem Names.look {w : World} {bm : Nat} (h : Names w bm) (t : Int) (ht : IsTrip t) :
    (Instr.lookup 32 (.map (some bm)) (.int .i64 t) true).run Tryd.prog w = .ok (.tuple #[.string ⟨(nameOf t).toArray⟩, .bool true]) w := by
  obtain ⟨n, hown⟩ := h.own
  have hk : keyOf Tryd.prog 26 (.int .i64 t) = some (.int .i64 t) := keyOf_int_mk Tryd.underlying26 (by rcases ht with rfl | rfl | rfl <;> decide)
  obtain ⟨v, ps, hrun, hv⟩ := hown.look_ok keyed Tryd.underlying32 (zero9 w) (plainElem_string Tryd.underlying9 (s := ⟨#[]⟩) (by decide)) hk
  obtain ⟨val, rfl, hz, _⟩ := plainElem_string_inv Tryd.underlying9 hv
  have hz1 := congrArg Prod.fst hz
  rcases ht with rfl | rfl | rfl
  · have e1 : (Rows.laid_example_com_tripline_tripline_tripNames (H := Unit)).atKey (.int .i64 1) (.lit (.string (ByteArray.mk #[]).data.toList)) = .lit (.string (nameOf 1)) := by kernel_rfl
    have e2 : Maps.has (Rows.laid_example_com_tripline_tripline_tripNames (H := Unit)) (.int .i64 1) = true := by kernel_rfl
    rw [hrun, e2]
    simp only [e1, DataW.lit.injEq, Lit.string.injEq] at hz1
    rw [hz1]
  · have e1 : (Rows.laid_example_com_tripline_tripline_tripNames (H := Unit)).atKey (.int .i64 2) (.lit (.string (ByteArray.mk #[]).data.toList)) = .lit (.string (nameOf 2)) := by kernel_rfl
    have e2 : Maps.has (Rows.laid_example_com_tripline_tripline_tripNames (H := Unit)) (.int .i64 2) = true := by kernel_rfl
    rw [hrun, e2]
    simp only [e1, DataW.lit.injEq, Lit.string.injEq] at hz1
    rw [hz1]
  · have e1 : (Rows.laid_example_com_tripline_tripline_tripNames (H := Unit)).atKey (.int .i64 3) (.lit (.string (ByteArray.mk #[]).data.toList)) = .lit (.string (nameOf 3)) := by kernel_rfl
    have e2 : Maps.has (Rows.laid_example_com_tripline_tripline_tripNames (H := Unit)) (.int .i64 3) = true := by kernel_rfl
    rw [hrun, e2]
    simp only [e1, DataW.lit.injEq, Lit.string.injEq] at hz1
    rw [hz1]

/-- (Trip).String at a rule. -/
theorem string_any (bm : Nat) (t : Int) (ht : IsTrip t) (w : World) (h : Names w bm) :
    Calls Tryd.prog 7 #[.int .i64 t] w fun e w' => e = .returned (.string ⟨(nameOf t).toArray⟩) ∧ w' = w := by
  have hc := h.cell
  have hl := h.look t ht
  go_enter Tryd.func7, Tryd.ntmps7
  go_wp2
  go_ret
  exact ⟨rfl, rfl⟩
end Go.Proofs.Qxb6612870aDoor
