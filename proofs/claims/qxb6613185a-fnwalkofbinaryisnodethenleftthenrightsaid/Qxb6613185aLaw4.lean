/-
  THE LAW OF THE BINARY NODE (func 4).
-/
import Derived.Test.Qxb6613185aLaw3
namespace Go.Proofs.Qxb6613185a
open Go.RowKit
set_option linter.unusedVariables false

theorem ByteRow.below {w w1 : World} {a : Option Addr} {n : Nat} {z : List Int} (h : ByteRow w a n z) (hb : Below w.heap.size w w1) : ByteRow w1 a n z := by
  intro j hj
  obtain ⟨b, o, h1, h2, h3, h4⟩ := h j hj
  exact ⟨b, o, h1, Nat.lt_of_lt_of_le h2 hb.size, (hb.cell h2).trans h3, h4⟩

theorem Spell.below {w w1 : World} {out s : List Value} (h : Spell w (fun k => k < w.heap.size) out s) (hb : Below w.heap.size w w1) : Spell w1 (fun k => k < w1.heap.size) out s :=
  h.mono fun k hk => ⟨Nat.lt_of_lt_of_le hk hb.size, hb.block k hk⟩

theorem cut0 (l : List Value) : cutAt 0 l = l := cut_all (.inl (by decide))

set_option maxRecDepth 100000
set_option maxHeartbeats 4000000 in
theorem walk4 (a0 : Option Addr) (len0 cap0 : Nat) (z0 : List Int) (a1 : Option Addr) (len1 cap1 : Nat) (z1 : List Int) (a2 : Option Addr) (len2 cap2 : Nat) (z2 : List Int) (a3 : Option Addr) (len3 cap3 : Nat) (z3 : List Int) (w : World)
    (m0 : len0 ≤ maxLen) (m1 : len1 ≤ maxLen) (m2 : len2 ≤ maxLen) (m3 : len3 ≤ maxLen) (h0 : ByteRow w a0 len0 z0) (h1 : ByteRow w a1 len1 z1) (h2 : ByteRow w a2 len2 z2) (h3 : ByteRow w a3 len3 z3) :
    Calls Try.prog 4 #[.slice a0 len0 cap0, .slice a1 len1 cap1, .slice a2 len2 cap2, .slice a3 len3 cap3] w fun e w' => e = .returned (.bool true) ∧ Below w.heap.size w w' := by
  have H0 := hid h0
  have H1 := hid h1
  have H2 := hid h2
  have H3 := hid h3
  have M0 := hid m0
  have M1 := hid m1
  have M2 := hid m2
  have M3 := hid m3
  clear h0 h1 h2 h3 m0 m1 m2 m3
  by_cases k0 : (4096 : Int) < (len0 : Int)
  · go_enter Try.func4, Try.ntmps4
    go_wp2_with fail
    refine (bytes9 _ _ _ _ _ _ _ _ _ _ _ _ M0.out M1.out M2.out M3.out _).mono ?_
    rintro e w' ⟨⟨b, rfl⟩, rfl⟩
    cases b
    all_goals
      go_wp2_with fail
      go_ret
      exact ⟨rfl, Below.refl _ _⟩
  by_cases k1 : (4096 : Int) < (len1 : Int)
  · go_enter Try.func4, Try.ntmps4
    go_wp2_with fail
    refine (bytes9 _ _ _ _ _ _ _ _ _ _ _ _ M0.out M1.out M2.out M3.out _).mono ?_
    rintro e w' ⟨⟨b, rfl⟩, rfl⟩
    cases b
    all_goals
      go_wp2_with fail
      go_ret
      exact ⟨rfl, Below.refl _ _⟩
  by_cases k2 : (4096 : Int) < (len2 : Int)
  · go_enter Try.func4, Try.ntmps4
    go_wp2_with fail
    refine (bytes9 _ _ _ _ _ _ _ _ _ _ _ _ M0.out M1.out M2.out M3.out _).mono ?_
    rintro e w' ⟨⟨b, rfl⟩, rfl⟩
    cases b
    all_goals
      go_wp2_with fail
      go_ret
      exact ⟨rfl, Below.refl _ _⟩
  by_cases k3 : (4096 : Int) < (len3 : Int)
  · go_enter Try.func4, Try.ntmps4
    go_wp2_with fail
    refine (bytes9 _ _ _ _ _ _ _ _ _ _ _ _ M0.out M1.out M2.out M3.out _).mono ?_
    rintro e w' ⟨⟨b, rfl⟩, rfl⟩
    cases b
    all_goals
      go_wp2_with fail
      go_ret
      exact ⟨rfl, Below.refl _ _⟩
  have l0 : len0 ≤ 4096 := by omega
  have l1 : len1 ≤ 4096 := by omega
  have l2 : len2 ≤ 4096 := by omega
  have l3 : len3 ≤ 4096 := by omega
  go_enter Try.func4, Try.ntmps4
  go_wp2_with fail
  refine (bytes9 _ _ _ _ _ _ _ _ _ _ _ _ M0.out M1.out M2.out M3.out _).mono ?_
  rintro e w' ⟨⟨b, rfl⟩, rfl⟩
  cases b
  · go_wp2_with fail
    go_ret
    exact ⟨rfl, Below.refl _ _⟩
  go_wp2_with fail
  refine (tree_any a0 len0 cap0 z0 a1 len1 cap1 z1 _ l0 l1 H0.out H1.out).mono ?_
  rintro e w1 ⟨ta, aA, cA, la, rfl, HA⟩
  go_wp2_with fail
  refine (tree_any a2 len2 cap2 z2 a3 len3 cap3 z3 _ l2 l3 (H2.out.below HA.out.below) (H3.out.below HA.out.below)).mono ?_
  rintro e w2 ⟨tb, aB, cB, lb, rfl, HB⟩
  have SA2 := hid (HA.out.sp.below HB.out.below)
  have hla := HA.out.len
  have hlb := HB.out.len
  go_wp2_with fail
  refine (all_any ta HA.out.isE 0 la (by omega) w2 SA2.out).mono ?_
  rintro e w3 ⟨gA, dA, rfl, OA, BA⟩
  rw [cut0] at OA ⊢
  have SA3 := hid (SA2.out.below BA.out)
  have SB3 := hid (HB.out.sp.below BA.out)
  go_wp2_with fail
  refine (all_any tb HB.out.isE 0 lb (by omega) w3 SB3.out).mono ?_
  rintro e w4 ⟨gB, dB, rfl, OB, BB⟩
  rw [cut0] at OB ⊢
  have SA4 := hid (SA3.out.below BB.out)
  have SB4 := hid (SB3.out.below BB.out)
  have hac := HA.out.isE.cells
  have hbc := HB.out.isE.cells
  unfold Value.cells at hac hbc
  go_wp2_with fail
  have B5 := hid ((Below.refl w4.heap.size w4).alloc (Nat.le_refl _) (.cells #[.int .i64 0, ta, tb] 35))
  have hn5 : (w4.alloc (.cells #[.int .i64 0, ta, tb] 35)).heap[w4.heap.size]? = some (.cells #[.int .i64 0, ta, tb] 35 (0, 0)) := heap_alloc_new _ _
  have SR : Hid (Spell (w4.alloc (.cells #[.int .i64 0, ta, tb] 35)) (fun k => k < (w4.alloc (.cells #[.int .i64 0, ta, tb] 35)).heap.size) (nd 32 w4.heap.size :: (la ++ lb)) [nd 32 w4.heap.size]) :=
    hid (Spell.node (isE_nd 32 _) (.inr (.inr (.inl ⟨w4.heap.size, ta, tb, rfl, by simp, by unfold World.cell?; rw [hn5]; rfl, by unfold World.cell?; rw [hn5]; rfl, rfl⟩))) (by
      intro k hk
      simp at hk
      rcases hk with rfl | rfl
      · exact HA.out.isE
      · exact HB.out.isE) ((SB4.out.below B5.out).append (SA4.out.below B5.out)))
  have hLL : (nd 32 w4.heap.size :: (la ++ lb)).length = 1 + la.length + lb.length := by simp; omega
  clear hac hbc hn5
  refine (all_any _ (isE_nd 32 _) 0 (nd 32 w4.heap.size :: (la ++ lb)) (by rw [hLL]; omega) _ SR.out).mono ?_
  rintro e w6 ⟨gC, dC, rfl, OC, BC⟩
  rw [cut0, hLL] at OC
  rw [cut0, hLL]
  clear hLL
  have hsz5 : w4.heap.size < (w4.alloc (.cells #[.int .i64 0, ta, tb] 35)).heap.size := by simp
  have t4 : ∀ k, k < w4.heap.size → w6.heap[k]? = w4.heap[k]? := fun k hk => (BC.out.block k (by omega)).trans (B5.out.block k hk)
  have t3 : ∀ k, k < w3.heap.size → w6.heap[k]? = w3.heap[k]? := fun k hk => (t4 k (Nat.lt_of_lt_of_le hk BB.out.size)).trans (BB.out.block k hk)
  have CA : Hid (∀ r, r < la.length → ∃ y r1 r3, gA = some ⟨r1, 0, none⟩ ∧ gC = some ⟨r3, 0, none⟩ ∧ w6.cell? ⟨r1, r, none⟩ = some y ∧ w6.cell? ⟨r3, 1 + r, none⟩ = some y ∧ ∃ ks, Kids w4 (fun k => k < w4.heap.size) y ks) := by
    refine hid fun r hr => ?_
    have hy : la[r]? = some la[r] := List.getElem?_eq_getElem hr
    obtain ⟨r1, e1, q1, c1⟩ := owns_cell OA.out r _ hy
    obtain ⟨r3, e3, _, c3⟩ := owns_cell OC.out (1 + r) la[r] (by rw [Nat.add_comm, List.getElem?_cons_succ, List.getElem?_append_left hr]; exact hy)
    exact ⟨la[r], r1, r3, e1, e3, (World.cell?_of_block (w := w3) (t3 r1 q1)).trans c1, c3, SA4.out.kids _ (List.mem_of_getElem? hy)⟩
  have CB : Hid (∀ r, r < lb.length → ∃ y r1 r3, gB = some ⟨r1, 0, none⟩ ∧ gC = some ⟨r3, 0, none⟩ ∧ w6.cell? ⟨r1, r, none⟩ = some y ∧ w6.cell? ⟨r3, 1 + la.length + r, none⟩ = some y ∧ ∃ ks, Kids w4 (fun k => k < w4.heap.size) y ks) := by
    refine hid fun r hr => ?_
    have hy : lb[r]? = some lb[r] := List.getElem?_eq_getElem hr
    obtain ⟨r1, e1, q1, c1⟩ := owns_cell OB.out r _ hy
    obtain ⟨r3, e3, _, c3⟩ := owns_cell OC.out (1 + la.length + r) lb[r] (by
      have e : 1 + la.length + r = (la.length + r) + 1 := by omega
      rw [e, List.getElem?_cons_succ, List.getElem?_append_right (by omega)]
      have e2 : la.length + r - la.length = r := by omega
      rw [e2]
      exact hy)
    exact ⟨lb[r], r1, r3, e1, e3, (World.cell?_of_block (w := w4) (t4 r1 q1)).trans c1, c3, SB4.out.kids _ (List.mem_of_getElem? hy)⟩
  obtain ⟨r3, rfl, _, c0⟩ := owns_cell OC.out 0 (nd 32 w4.heap.size) rfl
  have HF : Hid (∀ k, Below w'.heap.size w' (w6.drewN k)) := by
    refine hid fun k => ?_
    have f1 := HA.out.below
    have f2 := HB.out.below.mono f1.size
    have f3 := BA.out.mono (Nat.le_trans f1.size HB.out.below.size)
    have f4 := BB.out.mono (Nat.le_trans (Nat.le_trans f1.size HB.out.below.size) BA.out.size)
    have z4 : w'.heap.size ≤ w4.heap.size := Nat.le_trans (Nat.le_trans (Nat.le_trans f1.size HB.out.below.size) BA.out.size) BB.out.size
    have f5 := B5.out.mono z4
    have f6 := BC.out.mono (show w'.heap.size ≤ _ by omega)
    exact (((((f1.trans f2).trans f3).trans f4).trans f5).trans f6).trans ⟨rfl, rfl, rfl, Nat.le_refl _, fun _ _ => rfl⟩
  have K0 : Hid (∃ ks, Kids (w4.alloc (.cells #[.int .i64 0, ta, tb] 35)) (fun k => k < (w4.alloc (.cells #[.int .i64 0, ta, tb] 35)).heap.size) (nd 32 w4.heap.size) ks) := hid (SR.out.kids _ (by simp))
  clear t3 t4 hsz5
  unfold nd at c0
  go_wp2_with fail
  obtain ⟨ks0, hk0⟩ := K0.out
  refine (same_any _ hk0 w6).mono ?_
  rintro e w7 ⟨rfl, rfl⟩
  clear hk0
  go_wp2_with fail
  go_loopw [17] (fun iv wr => ∃ (r k : Nat), r ≤ la.length ∧ iv = .int .i64 (r : Int) ∧ Hid (wr = w7.drewN k)) (fun iv _ => la.length - (intOf iv).toNat)
  case atStart => exact ⟨0, 0, Nat.zero_le _, rfl, rfl⟩
  case round =>
    obtain ⟨r, k, hr, rfl, HWR⟩ := hrel
    by_cases hrM : r < la.length
    · have hrM' : (r : Int) < (la.length : Int) := by omega
      obtain ⟨y, r1, r4, rfl, e4, c1, c2, ks, hk⟩ := CA.out r hrM
      simp only [Option.some.injEq, Addr.mk.injEq, and_true] at e4
      subst e4
      have HKS := hid hk
      clear hk
      have d1 : wr.cell? ⟨r1, r, none⟩ = some y := by rw [HWR.out]; exact c1
      have d2 : wr.cell? ⟨r3, 1 + r, none⟩ = some y := by rw [HWR.out]; exact c2
      have hx1 : (1 : Int) + (r : Int) < 1 + (la.length : Int) + (lb.length : Int) := by omega
      clear c1 c2
      go_wp2
      go_quiet ((go_at_call 8; exact Calls.quiet_of_same (same_any y HKS.out _)))
      go_wp2_with fail
      go_roundw
      case rel => exact ⟨r + 1, k + nq, by omega, rfl, hid (by rw [HWR.out, World.drewN_drewN])⟩
      case measure => simp [intOf]; omega
    · have hrM' : ¬ (r : Int) < (la.length : Int) := by omega
      go_wp2_with fail
      go_loopw [18] (fun iv wr => ∃ (r k : Nat), r ≤ lb.length ∧ iv = .int .i64 (r : Int) ∧ Hid (wr = w7.drewN k)) (fun iv _ => lb.length - (intOf iv).toNat)
      case atStart => exact ⟨0, k, Nat.zero_le _, rfl, HWR.out⟩
      case round =>
        clear hr hrM hrM' HWR
        obtain ⟨t, k2, hr, rfl, HWR⟩ := hrel
        by_cases hrM : t < lb.length
        · have hrM' : (t : Int) < (lb.length : Int) := by omega
          obtain ⟨y, r1, r4, rfl, e4, c1, c2, ks, hk⟩ := CB.out t hrM
          simp only [Option.some.injEq, Addr.mk.injEq, and_true] at e4
          subst e4
          have HKS := hid hk
          clear hk
          have d1 := (congrArg (fun W => W.cell? ⟨r1, t, none⟩) HWR.out).trans c1
          have d2 := (congrArg (fun W => W.cell? ⟨r3, 1 + la.length + t, none⟩) HWR.out).trans c2
          have hx1 : (1 : Int) + (la.length : Int) + (t : Int) < 1 + (la.length : Int) + (lb.length : Int) := by omega
          clear c1 c2
          go_wp2
          go_quiet ((go_at_call 8; exact Calls.quiet_of_same (same_any y HKS.out _)))
          go_wp2_with fail
          go_roundw
          case rel => exact ⟨t + 1, k2 + nq, by omega, rfl, hid (by rw [HWR.out, World.drewN_drewN])⟩
          case measure => simp [intOf]; omega
        · have hrM' : ¬ (t : Int) < (lb.length : Int) := by omega
          go_wp2_with fail
          go_ret
          exact ⟨rfl, by rw [HWR.out]; exact HF.out k2⟩
end Go.Proofs.Qxb6613185a
