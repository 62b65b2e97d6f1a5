/-
  THE WALKS of 'halfway' and of its law: (*journal).halfway, ZZhalfway, pastHalfShare; and the plain arithmetic.
-/
import Derived.Test.Qxb6614168aRows
import Derived.WalkKit
import Derived.RegionTactic
import Derived.RowKit3
namespace Go.Proofs.Qxb6614168a
open Go.RowKit

/-- 'linesSize > size/16/2' for a size of at least 0. -/
def hw (s l : Int) : Bool := decide (s / 32 < l)

/-- ZZhalfway, and (*journal).halfway inside it. -/
theorem half_any (s l : Int) (hs : 0 ≤ s) (hs' : s ≤ 9223372036854775807) (w : World) :
    Calls Try.prog 4 #[.int .i64 s, .int .i64 l] w fun e w' => e = .returned (.bool (hw s l)) ∧ Grown w w' := by
  have e : hw s l = decide (s / 16 / 2 < l) := by
    have : s / 16 / 2 = s / 32 := by omega
    rw [this]; rfl
  rw [e]
  clear e
  go_enter Try.func4, Try.ntmps4
  go_wp2
  go_region
  go_wp2
  go_ret
  exact ⟨rfl, by repeat (first | exact Grown.refl _ | apply Grown.drew | apply Grown.alloc)⟩

/-- pastHalfShare. -/
theorem past_any (s l : Int) (hs : 0 ≤ s) (hs' : s ≤ 9223372036854775807) (w : World) :
    Calls Try.prog 5 #[.int .i64 s, .int .i64 l] w fun e w' => e = .returned (.bool (hw s l)) ∧ Grown w w' := by
  by_cases h1 : l ≤ 0
  · have e : hw s l = false := by simp [hw]; omega
    rw [e]
    clear e
    go_enter Try.func5, Try.ntmps5
    go_wp2
    go_ret
    exact ⟨rfl, Grown.refl _⟩
  · by_cases h2 : 288230376151711744 ≤ l
    · have e : hw s l = true := by simp [hw]; omega
      rw [e]
      clear e
      go_enter Try.func5, Try.ntmps5
      go_wp2
      go_ret
      exact ⟨rfl, Grown.refl _⟩
    · have e : hw s l = decide (s < l * 32) := by simp [hw]; omega
      rw [e]
      clear e
      go_enter Try.func5, Try.ntmps5
      go_wp2
      go_ret
      exact ⟨rfl, Grown.refl _⟩

theorem grown_trans {a b c : World} (h : Grown a b) (k : Grown b c) : Grown a c :=
  ⟨World.keptBut_trans h.1 k.1, fun x => (k.2.1 x).trans (h.2.1 x), Nat.le_trans h.2.2 k.2.2⟩

/-- The law. -/
theorem law_any (s l : Int) (hs' : s ≤ 9223372036854775807) (hl : -9223372036854775808 ≤ l) (hl' : l ≤ 9223372036854775807) (w : World) :
    Calls Try.prog 3 #[.int .i64 s, .int .i64 l] w fun e w' => e = .returned (.bool true) ∧ Grown w w' := by
  by_cases h0 : s < 0
  · go_enter Try.func3, Try.ntmps3
    go_wp2_with fail
    go_ret
    exact ⟨rfl, Grown.refl _⟩
  have hs : 0 ≤ s := by omega
  by_cases h1 : s / 32 < l
  · have e1 : hw s l = true := by simp [hw, h1]
    have E2 : Hid (l < 9223372036854775807 → hw s (l + 1) = true) := fun _ => by simp [hw]; omega
    have E3 : Hid (0 < s → hw (s - 1) l = true) := fun _ => by simp [hw]; omega
    clear h1
    by_cases h2 : l < 9223372036854775807
    all_goals by_cases h3 : 0 < s
    all_goals
      first | have e2 := E2.out h2 | skip
      first | have e3 := E3.out h3 | skip
      clear E2 E3
      go_enter Try.func3, Try.ntmps3
      go_wp2_with (first | (go_at_call 4; refine (half_any _ _ (by omega) (by omega) _).mono ?_; rintro e w' ⟨rfl, hg⟩) | (go_at_call 5; refine (past_any _ _ (by omega) (by omega) _).mono ?_; rintro e w' ⟨rfl, hg⟩))
      go_ret
      exact ⟨rfl, by repeat (first | exact Grown.refl _ | refine grown_trans ?_ (by assumption))⟩
  · have e1 : hw s l = false := by simp [hw]; omega
    clear h1
    go_enter Try.func3, Try.ntmps3
    go_wp2_with (first | (go_at_call 4; refine (half_any _ _ (by omega) (by omega) _).mono ?_; rintro e w' ⟨rfl, hg⟩) | (go_at_call 5; refine (past_any _ _ (by omega) (by omega) _).mono ?_; rintro e w' ⟨rfl, hg⟩))
    go_ret
    exact ⟨rfl, by repeat (first | exact Grown.refl _ | refine grown_trans ?_ (by assumption))⟩
end Go.Proofs.Qxb6614168a
