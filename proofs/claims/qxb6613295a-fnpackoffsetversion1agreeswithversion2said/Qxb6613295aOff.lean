/-
  ZZpackOffset, and (*pack).offset inside it.
-/
import Derived.Test.Qxb6613295aBe
import Derived.Test.Qxb6613295aShelf
import Derived.Deep.RegionWith
import Derived.OpenShut
namespace Go.Proofs.Qxb6613295a
open Go.RowKit
set_option linter.unusedVariables false

/-- (Hash).Size at the two hashes. -/
theorem hash_any (h : Int) (h0 : 0 ≤ h) (h1 : h ≤ 1) (w : World) :
    Calls Try.prog 11 #[.int .u8 h] w fun e w' => e = .returned (.int .i64 (20 + 12 * h)) ∧ w' = w := by
  by_cases k : h = 1
  · subst k
    go_enter Try.func11, Try.ntmps11
    go_wp2
    go_ret
    exact ⟨rfl, rfl⟩
  · obtain rfl : h = 0 := by omega
    go_enter Try.func11, Try.ntmps11
    go_wp2
    go_ret
    exact ⟨rfl, rfl⟩

/-- Uint32 at the bytes from k on. -/
theorem u32_at (g n k : Nat) (z : List Int) (w : World) (hz : z.length = n) (hk : k + 4 ≤ n) (m d : Nat) (hm : 4 ≤ m) (hw : ∀ x ∈ z, (Lit.int .u8 x).wf = true)
    (hc : ∀ j, j < n → w.cell? ⟨g, j, none⟩ = some (.int .u8 (z.getD j 0))) :
    Calls Try.prog 12 #[.agg #[], .slice (some ⟨g, k, none⟩) m d] w fun e w' => e = .returned (.int .u32 (Lib.beZ ((z.drop k).take 4))) ∧ Below w.heap.size w w' := by
  refine Try.binary_BE_Uint32_z ⟨g, k, none⟩ m d (z.drop k) w hm (by simp; omega) (fun i hi => ?_) (fun x hx => hw x (List.mem_of_mem_drop hx))
  have hi' : k + i < n := by simp at hi; omega
  have e : (⟨g, k, none⟩ : Addr).add i = ⟨g, k + i, none⟩ := by simp [Addr.add]
  rw [e, hc _ hi']
  simp [List.getD_eq_getElem?_getD]

/-- 'x[k:]' of a slice of bytes at the head of a block. -/
theorem slice_from (g n cap k : Nat) (h1 : k ≤ n) (h2 : ¬ cap = k) (w : World) :
    (Instr.slice 22 (.slice (some ⟨g, 0, none⟩) n cap) (some (.int .i64 (k : Int))) none none).run Try.prog w = .ok (.slice (some ⟨g, k, none⟩) (n - k) (cap - k)) w := by
  have e : Try.prog.elem 22 = 5 := by kernel_rfl
  rw [run_slice_l (P := Try.prog) (w := w) 22 (some ⟨g, 0, none⟩) n cap (by rw [e]; exact Try.underlying22) .i64 (k : Int) (by omega) (by omega)]
  rw [e]
  simp [go_sem, Try.sizeOf5, sliced, h2, Addr.add]
  omega

/-- The four bytes from k on, the greatest first. -/
def wordAt (z : List Int) (k : Nat) : Int := Lib.beZ ((z.drop k).take 4)

theorem wordAt_wf {z : List Int} {k : Nat} (hk : k + 4 ≤ z.length) (hw : ∀ x ∈ z, (Lit.int .u8 x).wf = true) : 0 ≤ wordAt z k ∧ wordAt z k ≤ 4294967295 :=
  bounds_u32 (Lib.beZ4_wf (z.drop k) (by simp; omega) (fun x hx => hw x (List.mem_of_mem_drop hx)))

set_option maxHeartbeats 1000000 in
/-- Version 1. -/
theorem off1 (pb i : Nat) (h : Int) (h0 : 0 ≤ h) (h1 : h ≤ 1) (n : Nat) (o l : Value) (z : List Int) (B : Nat) (w : World) (hp : IsPack w pb 1 h o l) (hb : Bytes w B o n z) (hn : n ≤ 1048576)
    (hi : (24 + 12 * h.toNat) * i + 4 ≤ n) :
    Calls Try.prog 9 #[.pointer (some ⟨pb, 0, none⟩), .int .i64 i] w fun e w' => e = .returned (.int .i64 (wordAt z ((24 + 12 * h.toNat) * i))) ∧ Below w.heap.size w w' := by
  obtain ⟨sb, _, hs1, hs2⟩ := hp.store
  have hv := hp.version
  have ho := hp.offsets
  obtain ⟨hz, hw, ⟨_, hn0⟩ | ⟨g, cap, rfl, _, _, hcap, hmax, hcell⟩⟩ := hb
  · omega
  unfold maxLen at hmax
  clear hp
  rcases (show h = 0 ∨ h = 1 by omega) with rfl | rfl
  · simp only [Int.toNat_zero, Nat.mul_zero, Nat.add_zero] at hi ⊢
    obtain ⟨k, hk⟩ : ∃ k : Nat, (i : Int) * 24 = (k : Int) := ⟨i * 24, by omega⟩
    have hk' : 24 * i = k := by omega
    rw [hk']
    rw [hk'] at hi
    clear hk'
    have U := fun m d hm => u32_at g n k z w.drew hz hi m d hm hw hcell
    change ∀ m d, _ → Calls _ _ _ _ fun e w' => e = .returned (.int .u32 (wordAt z k)) ∧ _ at U
    obtain ⟨r0, r1⟩ := wordAt_wf (z := z) (k := k) (by omega) hw
    generalize wordAt z k = r at U r0 r1 ⊢
    have HU : Hid _ := U
    have hwr : IntKind.i64.wrap r = r := IntWalk.i64_in _ ⟨by omega, by omega⟩
    have hc1 : ¬ cap = k := by omega
    have hkn : k ≤ n := by omega
    have hw1 : IntKind.i64.wrap 24 = 24 := IntWalk.i64_in _ ⟨by omega, by omega⟩
    have hw2 : IntKind.i64.wrap ((i : Int) * 24) = (k : Int) := by rw [IntWalk.i64_in _ ⟨by omega, by omega⟩]; exact hk
    have hsl := slice_from g n cap k hkn hc1
    clear hcell hw U hk
    go_enter Try.func9, Try.ntmps9
    go_wp2_with (first | (go_at_call 11; refine (hash_any _ (by omega) (by omega) _).mono ?_; rintro e w' ⟨rfl, rfl⟩) | (go_at_call 10; go_in))
    go_region_with (go_at_call 12; refine (HU.out _ _ (by omega)).mono ?_; rintro e w2 ⟨rfl, hb2⟩)
    all_goals
      go_wp2
      go_ret
      exact ⟨rfl, (Below.refl _ _).drew.trans hb2⟩
  · simp only [Int.toNat_one, Nat.mul_one, Nat.reduceAdd] at hi ⊢
    obtain ⟨k, hk⟩ : ∃ k : Nat, (i : Int) * 36 = (k : Int) := ⟨i * 36, by omega⟩
    have hk' : 36 * i = k := by omega
    rw [hk']
    rw [hk'] at hi
    clear hk'
    have U := fun m d hm => u32_at g n k z w.drew hz hi m d hm hw hcell
    change ∀ m d, _ → Calls _ _ _ _ fun e w' => e = .returned (.int .u32 (wordAt z k)) ∧ _ at U
    obtain ⟨r0, r1⟩ := wordAt_wf (z := z) (k := k) (by omega) hw
    generalize wordAt z k = r at U r0 r1 ⊢
    have HU : Hid _ := U
    have hwr : IntKind.i64.wrap r = r := IntWalk.i64_in _ ⟨by omega, by omega⟩
    have hc1 : ¬ cap = k := by omega
    have hkn : k ≤ n := by omega
    have hw1 : IntKind.i64.wrap 36 = 36 := IntWalk.i64_in _ ⟨by omega, by omega⟩
    have hw2 : IntKind.i64.wrap ((i : Int) * 36) = (k : Int) := by rw [IntWalk.i64_in _ ⟨by omega, by omega⟩]; exact hk
    have hsl := slice_from g n cap k hkn hc1
    clear hcell hw U hk
    go_enter Try.func9, Try.ntmps9
    go_wp2_with (first | (go_at_call 11; refine (hash_any _ (by omega) (by omega) _).mono ?_; rintro e w' ⟨rfl, rfl⟩) | (go_at_call 10; go_in))
    go_region_with (go_at_call 12; refine (HU.out _ _ (by omega)).mono ?_; rintro e w2 ⟨rfl, hb2⟩)
    all_goals
      go_wp2
      go_ret
      exact ⟨rfl, (Below.refl _ _).drew.trans hb2⟩
end Go.Proofs.Qxb6613295a
