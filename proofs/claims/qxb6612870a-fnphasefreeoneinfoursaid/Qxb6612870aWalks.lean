/-
  THE WALKS of 'free' on phases and of its two laws; and the plain arithmetic.
-/
import Derived.Test.Qxb6612870aRows
import Derived.WalkKit
import Derived.Outline
import Derived.RowKit3
import Derived.Laws.BitsAllLaws
namespace Go.Proofs.Qxb6612870a
open Go.RowKit

/-- 'p & 3 == 0'. -/
def fr (p : Int) : Bool := p % 4 == 0

theorem and_three (p : Int) (h0 : 0 ≤ p) (h1 : p ≤ 18446744073709551615) : bits BinOp.and IntKind.u64 p 3 = p % 4 := by
  rw [u64_and p 3 h0 (by omega) (by omega) (by omega)]
  have h : p.toNat &&& 3 = p.toNat % 4 := Nat.and_two_pow_sub_one_eq_mod p.toNat 2
  show ((p.toNat &&& 3 : Nat) : Int) = _
  rw [h]; omega

/-- ZZphaseFree, and (phase).free inside it. -/
theorem free_any (p : Int) (h0 : 0 ≤ p) (h1 : p ≤ 18446744073709551615) (w : World) :
    Calls Try.prog 5 #[.int .u64 p] w fun e w' => e = .returned (.bool (fr p)) ∧ w' = w := by
  have e : fr p = (bits BinOp.and IntKind.u64 p 3 == 0) := by rw [and_three p h0 h1]; rfl
  rw [e]; clear e
  go_enter Try.func5, Try.ntmps5
  go_wp2
  go_ret
  exact ⟨rfl, rfl⟩

theorem wrap_lo (x : Int) : 0 ≤ IntKind.u64.wrap x := by rw [IntKind.wrap_u64]; omega
theorem wrap_hi (x : Int) : IntKind.u64.wrap x ≤ 18446744073709551615 := by rw [IntKind.wrap_u64]; omega
/-- 4 divides 2^64: a wrap does not turn 'free'. -/
theorem fr_wrap (x : Int) : fr (IntKind.u64.wrap x) = fr x := by
  rw [IntKind.wrap_u64]; unfold fr
  have : x % 18446744073709551616 % 4 = x % 4 := by omega
  rw [this]

/-- Of four neighbours just one is free. -/
theorem one_in_four (p : Int) :
    (fr p = true ∧ fr (IntKind.u64.wrap (p + 1)) = false ∧ fr (IntKind.u64.wrap (p + 2)) = false ∧ fr (IntKind.u64.wrap (p + 3)) = false) ∨
    (fr p = false ∧ fr (IntKind.u64.wrap (p + 1)) = true ∧ fr (IntKind.u64.wrap (p + 2)) = false ∧ fr (IntKind.u64.wrap (p + 3)) = false) ∨
    (fr p = false ∧ fr (IntKind.u64.wrap (p + 1)) = false ∧ fr (IntKind.u64.wrap (p + 2)) = true ∧ fr (IntKind.u64.wrap (p + 3)) = false) ∨
    (fr p = false ∧ fr (IntKind.u64.wrap (p + 1)) = false ∧ fr (IntKind.u64.wrap (p + 2)) = false ∧ fr (IntKind.u64.wrap (p + 3)) = true) := by
  simp only [fr_wrap]
  simp only [fr, beq_iff_eq, beq_eq_false_iff_ne, ne_eq]
  omega

theorem law1_any (p : Int) (h0 : 0 ≤ p) (h1 : p ≤ 18446744073709551615) (w : World) :
    Calls Try.prog 3 #[.int .u64 p] w fun e w' => e = .returned (.bool true) ∧ Grown w w' := by
  rcases one_in_four p with ⟨f0, f1, f2, f3⟩ | ⟨f0, f1, f2, f3⟩ | ⟨f0, f1, f2, f3⟩ | ⟨f0, f1, f2, f3⟩
  all_goals
    go_enter Try.func3, Try.ntmps3
    go_wp2_with (go_at_call 5; refine (free_any _ (by first | exact h0 | exact wrap_lo _) (by first | exact h1 | exact wrap_hi _) _).mono ?_; rintro e w' ⟨rfl, rfl⟩)
    go_ret
    exact ⟨rfl, Grown.refl _⟩

/-- 'p &^ 3', on the naturals. -/
theorem and_mask (a : Nat) (h : a < 18446744073709551616) : a &&& 18446744073709551612 = a - a % 4 := by
  have e1 : a - a % 4 = (a >>> 2) <<< 2 := by
    rw [Nat.shiftLeft_eq, Nat.shiftRight_eq_div_pow]; omega
  have e2 : 18446744073709551612 = (2 ^ 62 - 1) <<< 2 := by decide
  rw [e1, e2]
  apply Nat.eq_of_testBit_eq
  intro i
  rw [Nat.testBit_and, Nat.testBit_shiftLeft, Nat.testBit_shiftLeft, Nat.testBit_shiftRight, Nat.testBit_two_pow_sub_one]
  by_cases h2 : 2 ≤ i
  · have e3 : 2 + (i - 2) = i := by omega
    rw [e3]
    by_cases h64 : i < 64
    · have : i - 2 < 62 := by omega
      simp [h2, this]
    · have : a.testBit i = false := Nat.testBit_lt_two_pow (Nat.lt_of_lt_of_le h (by
        have : 2 ^ 64 ≤ 2 ^ i := Nat.pow_le_pow_right (by omega) (by omega)
        omega))
      simp [this]
  · simp [h2]

/-- 'p &^ 3'. -/
theorem andNot_three (p : Int) (h0 : 0 ≤ p) (h1 : p ≤ 18446744073709551615) : bits BinOp.andNot IntKind.u64 p 3 = p - p % 4 := by
  rw [u64_andNot p 3 h0 (by omega) (by omega) (by omega)]
  show ((p.toNat &&& 18446744073709551612 : Nat) : Int) = _
  rw [and_mask p.toNat (by omega)]
  omega

theorem law2_any (p k : Int) (h0 : 0 ≤ p) (h1 : p ≤ 18446744073709551615) (w : World) :
    Calls Try.prog 4 #[.int .u64 p, .int .u64 k] w fun e w' => e = .returned (.bool true) ∧ Grown w w' := by
  have n3 := andNot_three p h0 h1
  have f3 : fr (p - p % 4) = true := by simp [fr]
  have f4 : fr (IntKind.u64.wrap (p + IntKind.u64.wrap (k * 4))) = fr p := by
    rw [fr_wrap, IntKind.wrap_u64]; unfold fr
    have : (p + k * 4 % 18446744073709551616) % 4 = p % 4 := by omega
    rw [this]
  go_enter Try.func4, Try.ntmps4
  go_wp2_with fail
  refine (free_any _ (by omega) (by omega) _).mono ?_
  rintro e w' ⟨rfl, rfl⟩
  go_wp2_with fail
  refine (free_any _ (by omega) (by omega) _).mono ?_
  rintro e w' ⟨rfl, rfl⟩
  go_wp2_with fail
  refine (free_any _ (wrap_lo _) (wrap_hi _) _).mono ?_
  rintro e w' ⟨rfl, rfl⟩
  go_wp2_with fail
  go_ret
  exact ⟨rfl, Grown.refl _⟩
end Go.Proofs.Qxb6612870a
