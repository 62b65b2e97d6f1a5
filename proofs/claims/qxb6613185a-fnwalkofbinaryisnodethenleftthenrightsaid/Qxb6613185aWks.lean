/-
  WALK's STEPS: the loop's start, its next round, the operands' rows.
-/
import Derived.Test.Qxb6613185aTwo
namespace Go.Proofs.Qxb6613185a
open Go.RowKit
set_option linter.unusedVariables false

theorem wk_start {B : Nat} {x : Value} {G S : Nat} {stop : Int} {L : List Value} {w0 w : World} (hbe : Below B w0 w) (hle : B ≤ w.heap.size)
    (hG : w.heap[G]? = some (.cells #[.slice none 0 0] 26 (0, 0))) (hS : w.heap[S]? = some (.cells #[.int .i64 stop] 3 (0, 0))) (hGS : S ≠ G) (hGB : B ≤ G) (hsp : Spell w0 (· < B) L [x]) :
    Wk B w0 ((w.alloc (.cells #[x] 25)).alloc (.cells #[.slice (some ⟨w.heap.size, 0, none⟩) 1 1] 26)) (w.heap.size + 1) G S stop L (some ⟨w.heap.size, 0, none⟩) 1 [x] none 0 [] L := by
  have hGl : G < w.heap.size := (Array.getElem?_eq_some_iff.1 hG).1
  have hSl : S < w.heap.size := (Array.getElem?_eq_some_iff.1 hS).1
  have hk : ∀ k, k < w.heap.size → ((w.alloc (.cells #[x] 25)).alloc (.cells #[.slice (some ⟨w.heap.size, 0, none⟩) 1 1] 26)).heap[k]? = w.heap[k]? := fun k hk => (Below.heap_alloc _ _ _ (by simp; omega)).trans (Below.heap_alloc _ _ _ hk)
  have hP : ((w.alloc (.cells #[x] 25)).alloc (.cells #[.slice (some ⟨w.heap.size, 0, none⟩) 1 1] 26)).heap[w.heap.size + 1]? = some (.cells #[.slice (some ⟨w.heap.size, 0, none⟩) 1 1] 26 (0, 0)) := by
    have e : w.heap.size + 1 = (w.alloc (.cells #[x] 25)).heap.size := by simp
    rw [e]
    exact heap_alloc_new _ _
  have hR : ((w.alloc (.cells #[x] 25)).alloc (.cells #[.slice (some ⟨w.heap.size, 0, none⟩) 1 1] 26)).heap[w.heap.size]? = some (.cells #[x] 25 (0, 0)) := (Below.heap_alloc _ _ _ (by simp)).trans (heap_alloc_new _ _)
  refine ⟨⟨⟨hP, ⟨rfl, .inr ⟨w.heap.size, 1, #[x], rfl, hle, hR, by simp, by decide, by simp, by simp⟩⟩, by simp, by omega⟩, ⟨(hk G hGl).trans hG, World.ownsRow_nil _ _ _ _, by simp, hGB⟩, (hk S hSl).trans hS, by omega, by omega, hGS, by simp, ?_, ?_, by simp, fun k hk => by simp, (hbe.alloc hle _).alloc (by simp; omega) _, by simp; omega⟩, rfl, hsp, by simp; omega⟩
  · intro e; simp at e; omega
  · intro e; simp at e; omega

section
variable {B : Nat} {w0 w w' : World} {P G S : Nat} {stop : Int} {pa ga : Option Addr} {pc gc : Nat} {st got : List Value}

/-- The round is over. -/
theorem wk_next {L out s' ks got0 : List Value} {y : Value} (h : Two B w0 w P G S stop pa pc st ga gc (got0 ++ [y])) (hst : st = (ks ++ s').reverse) (heq : got0 ++ y :: out = L) (hsp : Spell w0 (· < B) out (ks ++ s')) (hg : stop < 1 ∨ (got0.length : Int) < stop) (hne : ¬ (got0.length : Int) + 1 = stop) :
    Wk B w0 w P G S stop L pa pc (ks ++ s') ga gc (got0 ++ [y]) out :=
  ⟨hst ▸ h, by rw [← heq]; simp, hsp, by simp; omega⟩

/-- A push. -/
theorem Two.pushed (h : Two B w0 w P G S stop pa pc st ga gc got) {pa' : Option Addr} {pc' : Nat} {st' : List Value} (f : Fr P w pa w' pa') (hb : Bx B w' P pa' pc' st') : Two B w0 w' P G S stop pa' pc' st' ga gc got := (h.symm.fr f hb).symm

/-- The operands in a new row. -/
theorem Two.newrow (h : Two B w0 w P G S stop pa pc st ga gc got) (us : Array Value) (t : Nat) : ∀ j x, us.toList[j]? = some x → ∃ g, (some ⟨w.heap.size, 0, none⟩ : Option Addr) = some ⟨g, 0, none⟩ ∧ g ≠ P ∧ some g ≠ pa.map (·.block) ∧ (w.alloc (.cells us t)).cell? ⟨g, j, none⟩ = some x := by
  intro j x hj
  refine ⟨w.heap.size, rfl, by have := h.p.lt; omega, ?_, ?_⟩
  · intro e
    have := (h.p.rowlt _ e).2
    omega
  · have : us[j]? = some x := by simpa using hj
    unfold World.cell?
    rw [heap_alloc_new]
    exact this

/-- The operands in the node's own row. -/
theorem Two.oldrow (h : Two B w0 w P G S stop pa pc st ga gc got) {v : Value} {xs : List Value} (hr : RowAt w0 (· < B) v xs) : ∃ ra rc, v = .slice ra xs.length rc ∧ ∀ j x, xs[j]? = some x → ∃ g, ra = some ⟨g, 0, none⟩ ∧ g ≠ P ∧ some g ≠ pa.map (·.block) ∧ w.cell? ⟨g, j, none⟩ = some x := by
  rcases hr with ⟨rfl, rfl⟩ | ⟨g, c, rfl, hg, hc, hm, hx⟩
  · exact ⟨none, 0, rfl, by simp⟩
  · refine ⟨_, _, rfl, fun j x hj => ⟨g, rfl, by have := h.p.ge; show g ≠ P; omega, ?_, (h.be.cell hg).trans (hx j x hj)⟩⟩
    intro e
    have := (h.p.rowlt _ e).1
    omega
end
end Go.Proofs.Qxb6613185a
