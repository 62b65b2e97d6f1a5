/-
  ZZpackOffset at version 2.
-/
import Derived.Test.Qxb6613295aOff
namespace Go.Proofs.Qxb6613295a
open Go.RowKit
set_option linter.unusedVariables false

theorem and_low (r : Int) (h0 : 0 ≤ r) (h1 : r < 2147483648) : bits .and .u32 r 2147483648 = 0 := by
  rw [u32_and r 2147483648 h0 (by omega) (by omega) (by omega)]
  have : r.toNat &&& 2147483648 = 0 := by
    apply Nat.eq_of_testBit_eq
    intro i
    rw [Nat.testBit_and, show 2147483648 = 2 ^ 31 by decide, Nat.testBit_two_pow]
    by_cases hi : 31 = i
    · subst hi
      simp [Nat.testBit_lt_two_pow (show r.toNat < 2 ^ 31 by omega)]
    · simp [hi]
  show ((r.toNat &&& 2147483648 : Nat) : Int) = 0
  rw [this]; rfl

theorem and_high (m : Nat) (h1 : m < 2147483648) : bits .and .u32 (2147483648 + (m : Int)) 2147483648 = 2147483648 := by
  rw [u32_and _ 2147483648 (by omega) (by omega) (by omega) (by omega)]
  have : (2147483648 + m) &&& 2147483648 = 2147483648 := by
    apply Nat.eq_of_testBit_eq
    intro i
    rw [Nat.testBit_and, show 2147483648 = 2 ^ 31 by decide, Nat.testBit_two_pow]
    by_cases hi : 31 = i
    · subst hi
      have := Nat.testBit_two_pow_add_eq m 31
      rw [this, Nat.testBit_lt_two_pow (show m < 2 ^ 31 by omega)]
      simp
    · simp [hi]
  have e : (2147483648 + (m : Int)).toNat = 2147483648 + m := by omega
  rw [e]
  show (((2147483648 + m) &&& 2147483648 : Nat) : Int) = 2147483648
  rw [this]; rfl

theorem andNot_high (m : Nat) (h1 : m < 2147483648) : bits .andNot .u32 (2147483648 + (m : Int)) 2147483648 = (m : Int) := by
  rw [u32_andNot _ 2147483648 (by omega) (by omega) (by omega) (by omega)]
  have e : (2147483648 + (m : Int)).toNat = 2147483648 + m := by omega
  rw [e]
  show (((2147483648 + m) &&& 2147483647 : Nat) : Int) = m
  have : (2147483648 + m) &&& 2147483647 = m := by
    have := Nat.and_two_pow_sub_one_eq_mod (2147483648 + m) 31
    rw [show 2147483647 = 2 ^ 31 - 1 by decide, this]
    omega
  rw [this]

set_option maxHeartbeats 1000000 in
/-- Version 2, the word's top bit clear: the word itself. -/
theorem off2_low (pb i : Nat) (h : Int) (n : Nat) (o l : Value) (z : List Int) (B : Nat) (w : World) (hp : IsPack w pb 2 h o l) (hb : Bytes w B o n z) (hn : n ≤ 1048576)
    (hi : 4 * i + 4 ≤ n) (hr : wordAt z (4 * i) < 2147483648) :
    Calls Try.prog 9 #[.pointer (some ⟨pb, 0, none⟩), .int .i64 i] w fun e w' => e = .returned (.int .i64 (wordAt z (4 * i))) ∧ Below w.heap.size w w' := by
  have hv := hp.version
  have ho := hp.offsets
  obtain ⟨hz, hw, ⟨_, hn0⟩ | ⟨g, cap, rfl, _, _, hcap, hmax, hcell⟩⟩ := hb
  · omega
  unfold maxLen at hmax
  clear hp
  obtain ⟨k, hk⟩ : ∃ k : Nat, 4 * (i : Int) = (k : Int) := ⟨4 * i, by omega⟩
  have hk' : 4 * i = k := by omega
  rw [hk'] at hi hr ⊢
  clear hk'
  have U := fun m d hm => u32_at g n k z w.drew hz hi m d hm hw hcell
  change ∀ m d, _ → Calls _ _ _ _ fun e w' => e = .returned (.int .u32 (wordAt z k)) ∧ _ at U
  obtain ⟨r0, r1⟩ := wordAt_wf (z := z) (k := k) (by omega) hw
  generalize wordAt z k = r at U r0 r1 hr ⊢
  have HU : Hid _ := U
  have hwr : IntKind.i64.wrap r = r := IntWalk.i64_in _ ⟨by omega, by omega⟩
  have hand := and_low r r0 hr
  have hc1 : ¬ cap = k := by omega
  have hkn : k ≤ n := by omega
  have hw2 : IntKind.i64.wrap (4 * (i : Int)) = (k : Int) := by rw [IntWalk.i64_in _ ⟨by omega, by omega⟩]; exact hk
  have hsl := slice_from g n cap k hkn hc1
  clear hcell hw U hk
  go_enter Try.func9, Try.ntmps9
  go_wp2_with (go_at_call 10; go_in)
  go_region_with (go_at_call 12; refine (HU.out _ _ (by omega)).mono ?_; rintro e w2 ⟨rfl, hb2⟩)
  all_goals
    go_wp2
    go_ret
    exact ⟨rfl, (Below.refl _ _).drew.trans hb2⟩

/-- Uint64 at the bytes from k on. -/
theorem u64_at (g n k : Nat) (z : List Int) (w : World) (hz : z.length = n) (hk : k + 8 ≤ n) (m d : Nat) (hm : 8 ≤ m) (hw : ∀ x ∈ z, (Lit.int .u8 x).wf = true)
    (hc : ∀ j, j < n → w.cell? ⟨g, j, none⟩ = some (.int .u8 (z.getD j 0))) :
    Calls Try.prog 13 #[.agg #[], .slice (some ⟨g, k, none⟩) m d] w fun e w' => e = .returned (.int .u64 (Lib.beZ ((z.drop k).take 8))) ∧ Below w.heap.size w w' := by
  refine Try.binary_BE_Uint64_z ⟨g, k, none⟩ m d (z.drop k) w hm (by simp; omega) (fun i hi => ?_) (fun x hx => hw x (List.mem_of_mem_drop hx))
  have hi' : k + i < n := by simp at hi; omega
  have e : (⟨g, k, none⟩ : Addr).add i = ⟨g, k + i, none⟩ := by simp [Addr.add]
  rw [e, hc _ hi']
  simp [List.getD_eq_getElem?_getD]

set_option maxHeartbeats 1000000 in
/-- Version 2, the word's top bit set, no such large offset: -1. -/
theorem off2_short (pb i : Nat) (h : Int) (n : Nat) (o : Value) (al : Option Addr) (nl cl : Nat) (z : List Int) (B : Nat) (w : World) (hp : IsPack w pb 2 h o (.slice al nl cl)) (hb : Bytes w B o n z) (hn : n ≤ 1048576)
    (hi : 4 * i + 4 ≤ n) (m : Nat) (hm : m < 2147483648) (hr : wordAt z (4 * i) = 2147483648 + (m : Int)) (hs : nl < 8 * m + 8) :
    Calls Try.prog 9 #[.pointer (some ⟨pb, 0, none⟩), .int .i64 i] w fun e w' => e = .returned (.int .i64 (-1)) ∧ Below w.heap.size w w' := by
  have hv := hp.version
  have ho := hp.offsets
  have hl := hp.large
  have hplt := hp.lt
  obtain ⟨hz, hw, ⟨_, hn0⟩ | ⟨g, cap, rfl, _, _, hcap, hmax, hcell⟩⟩ := hb
  · omega
  unfold maxLen at hmax
  clear hp
  obtain ⟨k, hk⟩ : ∃ k : Nat, 4 * (i : Int) = (k : Int) := ⟨4 * i, by omega⟩
  have hk' : 4 * i = k := by omega
  rw [hk'] at hi hr
  clear hk'
  have U := fun m d hm => u32_at g n k z w.drew hz hi m d hm hw hcell
  change ∀ m d, _ → Calls _ _ _ _ fun e w' => e = .returned (.int .u32 (wordAt z k)) ∧ _ at U
  rw [hr] at U
  have HU : Hid _ := U
  have hand := and_high m hm
  have hnot := andNot_high m hm
  have hc1 : ¬ cap = k := by omega
  have hkn : k ≤ n := by omega
  have hw2 : IntKind.i64.wrap (4 * (i : Int)) = (k : Int) := by rw [IntWalk.i64_in _ ⟨by omega, by omega⟩]; exact hk
  have hsl := slice_from g n cap k hkn hc1
  have hs' : (nl : Int) < 8 * (m : Int) + 8 := by omega
  clear hcell hw U hk hr
  go_enter Try.func9, Try.ntmps9
  go_wp2_with (go_at_call 10; go_in)
  go_region_with (go_at_call 12; refine (HU.out _ _ (by omega)).mono ?_; rintro e w2 ⟨rfl, hb2⟩; have hl2 := (hb2.cell (p := ⟨pb, 7, none⟩) hplt).trans hl)
  all_goals
    go_wp2
    go_ret
    exact ⟨rfl, (Below.refl _ _).drew.trans hb2⟩

set_option maxHeartbeats 2000000 in
/-- Version 2, the word's top bit set, the large offset there: -1, or a number from 0 to 2^62. -/
theorem off2_large (pb i : Nat) (h : Int) (n : Nat) (o l : Value) (nl : Nat) (z zl : List Int) (B : Nat) (w : World) (hp : IsPack w pb 2 h o l) (hb : Bytes w B o n z) (hn : n ≤ 1048576)
    (hbl : Bytes w B l nl zl) (hnl : nl ≤ 1048576)
    (hi : 4 * i + 4 ≤ n) (m : Nat) (hm : m < 2147483648) (hr : wordAt z (4 * i) = 2147483648 + (m : Int)) (hs : 8 * m + 8 ≤ nl) :
    Calls Try.prog 9 #[.pointer (some ⟨pb, 0, none⟩), .int .i64 i] w fun e w' => ∃ r, e = .returned (.int .i64 r) ∧ (r = -1 ∨ (0 ≤ r ∧ r ≤ 4611686018427387904)) ∧ Below w.heap.size w w' := by
  have hv := hp.version
  have ho := hp.offsets
  have hl := hp.large
  have hplt := hp.lt
  obtain ⟨hz, hw, ⟨_, hn0⟩ | ⟨g, cap, rfl, _, _, hcap, hmax, hcell⟩⟩ := hb
  · omega
  obtain ⟨hzl, hwl, ⟨_, hn0⟩ | ⟨gl, capl, rfl, _, hgl, hcapl, hmaxl, hcelll⟩⟩ := hbl
  · omega
  unfold maxLen at hmax hmaxl
  clear hp
  obtain ⟨k, hk⟩ : ∃ k : Nat, 4 * (i : Int) = (k : Int) := ⟨4 * i, by omega⟩
  have hk' : 4 * i = k := by omega
  rw [hk'] at hi hr
  clear hk'
  obtain ⟨k2, hk2⟩ : ∃ k2 : Nat, 8 * (m : Int) = (k2 : Int) := ⟨8 * m, by omega⟩
  have U := fun m d hm => u32_at g n k z w.drew hz hi m d hm hw hcell
  change ∀ m d, _ → Calls _ _ _ _ fun e w' => e = .returned (.int .u32 (wordAt z k)) ∧ _ at U
  rw [hr] at U
  have HU : Hid _ := U
  obtain ⟨r, hr8⟩ : ∃ r, r = Lib.beZ ((zl.drop k2).take 8) := ⟨_, rfl⟩
  have r64 := bounds_u64 (Lib.beZ8_wf (zl.drop k2) (by simp; omega) (fun x hx => hwl x (List.mem_of_mem_drop hx)))
  rw [← hr8] at r64
  obtain ⟨r0, r1⟩ := r64
  have U2 : ∀ w2 : World, Below w.heap.size w w2 → ∀ m d, 8 ≤ m → Calls Try.prog 13 #[.agg #[], .slice (some ⟨gl, k2, none⟩) m d] w2 fun e w' => e = .returned (.int .u64 r) ∧ Below w2.heap.size w2 w' := fun w2 hb2 m d hm => by
    rw [hr8]
    exact u64_at gl nl k2 zl w2 hzl (by omega) m d hm hwl (fun j hj => (hb2.cell hgl).trans (hcelll j hj))
  have HU2 : Hid _ := U2
  have hand := and_high m hm
  have hnot := andNot_high m hm
  have hc1 : ¬ cap = k := by omega
  have hkn : k ≤ n := by omega
  have hw2 : IntKind.i64.wrap (4 * (i : Int)) = (k : Int) := by rw [IntWalk.i64_in _ ⟨by omega, by omega⟩]; exact hk
  have hw3 : IntKind.i64.wrap (8 * (m : Int)) = (k2 : Int) := by rw [IntWalk.i64_in _ ⟨by omega, by omega⟩]; exact hk2
  have hsl := slice_from g n cap k hkn hc1
  have hsl2 := slice_from gl nl capl k2 (by omega) (by omega)
  have hs' : ¬ (nl : Int) < 8 * (m : Int) + 8 := by omega
  have hs2 : 8 ≤ nl - k2 := by omega
  clear hcell hw U hk hr hcelll hwl U2 hr8 hk2
  by_cases hbig : 4611686018427387904 < r
  · go_enter Try.func9, Try.ntmps9
    go_wp2_with (go_at_call 10; go_in)
    go_region_with (go_at_call 12; refine (HU.out _ _ (by omega)).mono ?_; rintro e w2 ⟨rfl, hb2⟩; have hl2 := (hb2.cell (p := ⟨pb, 7, none⟩) hplt).trans hl)
    all_goals
      go_wp2
      go_region_with (go_at_call 13; refine (HU2.out _ ((Below.refl _ _).drew.trans hb2).drew _ _ (by omega)).mono ?_; rintro e w3 ⟨rfl, hb3⟩)
    all_goals
      go_wp2
      go_ret
      exact ⟨-1, rfl, .inl rfl, ((Below.refl _ _).drew.trans hb2).drew.trans (hb3.mono hb2.size)⟩
  · have hbig' : r ≤ 4611686018427387904 := by omega
    go_enter Try.func9, Try.ntmps9
    go_wp2_with (go_at_call 10; go_in)
    go_region_with (go_at_call 12; refine (HU.out _ _ (by omega)).mono ?_; rintro e w2 ⟨rfl, hb2⟩; have hl2 := (hb2.cell (p := ⟨pb, 7, none⟩) hplt).trans hl)
    all_goals
      go_wp2
      go_region_with (go_at_call 13; refine (HU2.out _ ((Below.refl _ _).drew.trans hb2).drew _ _ (by omega)).mono ?_; rintro e w3 ⟨rfl, hb3⟩)
    all_goals
      go_wp2
      go_ret
      exact ⟨r, rfl, .inr ⟨r0, hbig'⟩, ((Below.refl _ _).drew.trans hb2).drew.trans (hb3.mono hb2.size)⟩

/-- Version 2, in one: what the law asks of it. -/
theorem off2 (pb i : Nat) (h : Int) (n : Nat) (o l : Value) (nl : Nat) (z zl : List Int) (B : Nat) (w : World) (hp : IsPack w pb 2 h o l) (hb : Bytes w B o n z) (hn : n ≤ 1048576)
    (hbl : Bytes w B l nl zl) (hnl : nl ≤ 1048576) (hi : 4 * i + 4 ≤ n) :
    Calls Try.prog 9 #[.pointer (some ⟨pb, 0, none⟩), .int .i64 i] w fun e w' => ∃ r, e = .returned (.int .i64 r) ∧ Hid ((wordAt z (4 * i) < 2147483648 → r = wordAt z (4 * i)) ∧ (2147483648 ≤ wordAt z (4 * i) → r = -1 ∨ (0 ≤ r ∧ r ≤ 4611686018427387904))) ∧ Below w.heap.size w w' := by
  obtain ⟨r0, r1⟩ := wordAt_wf (z := z) (k := 4 * i) (by have := hb.1; omega) hb.2.1
  by_cases hr : wordAt z (4 * i) < 2147483648
  · exact (off2_low pb i h n o l z B w hp hb hn hi hr).mono fun e w' ⟨he, hw⟩ => ⟨_, he, ⟨fun _ => rfl, fun h => by omega⟩, hw⟩
  · obtain ⟨m, hm⟩ : ∃ m : Nat, wordAt z (4 * i) = 2147483648 + (m : Int) := ⟨(wordAt z (4 * i) - 2147483648).toNat, by omega⟩
    by_cases hs : nl < 8 * m + 8
    · obtain ⟨al, cl, rfl⟩ : ∃ al cl, l = .slice al nl cl := by
        obtain ⟨_, _, ⟨rfl, rfl⟩ | ⟨g, cap, rfl, _⟩⟩ := hbl
        · exact ⟨_, _, rfl⟩
        · exact ⟨_, _, rfl⟩
      exact (off2_short pb i h n o al nl cl z B w hp hb hn hi m (by omega) hm hs).mono fun e w' ⟨he, hw⟩ => ⟨_, he, ⟨fun h => absurd h hr, fun _ => .inl rfl⟩, hw⟩
    · exact (off2_large pb i h n o l nl z zl B w hp hb hn hbl hnl hi m (by omega) hm (by omega)).mono fun e w' ⟨r, he, h1, hw⟩ => ⟨_, he, ⟨fun h => absurd h hr, fun _ => h1⟩, hw⟩
end Go.Proofs.Qxb6613295a
