/-
  PLAIN: the version-2 table out of the version-1 index: its words.
-/
import Derived.Test.Qxb6613295aOff
namespace Go.Proofs.Qxb6613295a

/-- The first four bytes of each of the first e entries of es bytes. -/
def tab (z : List Int) (es : Nat) : Nat → List Int
  | 0 => []
  | e + 1 => tab z es e ++ (z.drop (es * e)).take 4

theorem tab_length (z : List Int) (es : Nat) : ∀ e, (∀ j, j < e → es * j + 4 ≤ z.length) → (tab z es e).length = 4 * e
  | 0, _ => rfl
  | e + 1, h => by
    have h1 := tab_length z es e (fun j hj => h j (by omega))
    have h2 := h e (by omega)
    simp only [tab, List.length_append, List.length_take, List.length_drop, h1]
    omega

theorem tab_word (z : List Int) (es : Nat) : ∀ e, (∀ j, j < e → es * j + 4 ≤ z.length) → ∀ i, i < e → ((tab z es e).drop (4 * i)).take 4 = (z.drop (es * i)).take 4
  | 0, _, i, hi => by omega
  | e + 1, h, i, hi => by
    have h0 : ∀ j, j < e → es * j + 4 ≤ z.length := fun j hj => h j (by omega)
    have hl := tab_length z es e h0
    have he := h e (by omega)
    simp only [tab]
    by_cases hie : i = e
    · subst hie
      have e1 : (tab z es i).drop (4 * i) = [] := List.drop_eq_nil_of_le (by omega)
      rw [List.drop_append, e1, hl]
      simp [List.take_take]
    · have hie' : i < e := by omega
      rw [← tab_word z es e h0 i hie', List.drop_append, hl]
      have e2 : 4 * i - 4 * e = 0 := by omega
      rw [e2, List.drop_zero, List.take_append_of_le_length (by rw [List.length_drop, hl]; omega)]

theorem tab_wf (z : List Int) (es : Nat) (hw : ∀ x ∈ z, (Lit.int .u8 x).wf = true) : ∀ e, ∀ x ∈ tab z es e, (Lit.int .u8 x).wf = true
  | 0, x, hx => by simp [tab] at hx
  | e + 1, x, hx => by
    simp only [tab, List.mem_append] at hx
    rcases hx with hx | hx
    · exact tab_wf z es hw e x hx
    · exact hw x (List.mem_of_mem_drop (List.mem_of_mem_take hx))

theorem tab_wordAt (z : List Int) (es e i : Nat) (h : ∀ j, j < e → es * j + 4 ≤ z.length) (hi : i < e) : wordAt (tab z es e) (4 * i) = wordAt z (es * i) := by
  unfold wordAt
  rw [tab_word z es e h i hi]
end Go.Proofs.Qxb6613295a
