/-
  THE LAW OF THE WALK (func 3).
-/
import Derived.Test.Qxb6613185aAll
import Derived.Test.Qxb6613185aBytes
import Derived.Test.Qxb6613185aTree
namespace Go.Proofs.Qxb6613185a
open Go.RowKit
set_option linter.unusedVariables false

/-- What is read of an owned row. -/
theorem owns_cell {w : World} {B n c : Nat} {a : Option Addr} {xs : List Value} (h : w.ownsRow B 25 1 (.slice a n c) n xs) : ∀ j x, xs[j]? = some x → ∃ r, a = some ⟨r, 0, none⟩ ∧ r < w.heap.size ∧ w.cell? ⟨r, j, none⟩ = some x := by
  intro j x hj
  obtain ⟨h1, ⟨h2, h3⟩ | ⟨g, c2, cur, hv, hbg, hh, hnc, hmax, hsz, htake⟩⟩ := h
  · have := (List.getElem?_eq_some_iff.1 hj).1
    omega
  · simp only [Value.slice.injEq, true_and] at hv
    obtain ⟨rfl, rfl⟩ := hv
    refine ⟨g, rfl, (Array.getElem?_eq_some_iff.1 hh).1, ?_⟩
    have e2 : cur[j]? = some x := by
      rw [← htake, List.getElem?_take] at hj
      split at hj
      · simpa using hj
      · cases hj
    simp [World.cell?, hh, e2]

theorem cut_pre (stop : Int) (l : List Value) : (∀ (j : Nat) (y : Value), (cutAt stop l)[j]? = some y → l[j]? = some y) ∧ (1 ≤ stop → stop < (l.length : Int) → ((cutAt stop l).length : Int) = stop) ∧ (¬ (1 ≤ stop ∧ stop < (l.length : Int)) → (cutAt stop l).length = l.length) := by
  unfold cutAt
  split
  · rename_i h
    refine ⟨fun j y hj => ?_, fun _ _ => ?_, fun hn => absurd h hn⟩
    · rw [List.getElem?_take] at hj
      split at hj
      · exact hj
      · cases hj
    · simp; omega
  · rename_i h
    exact ⟨fun j y hj => hj, fun h1 h2 => absurd ⟨h1, h2⟩ h, fun _ => rfl⟩

set_option maxHeartbeats 1000000 in
theorem walk3 (a0 : Option Addr) (len0 cap0 : Nat) (z0 : List Int) (a1 : Option Addr) (len1 cap1 : Nat) (z1 : List Int) (stop : Int) (w : World) (m0 : len0 ≤ maxLen) (m1 : len1 ≤ maxLen) (h0 : ByteRow w a0 len0 z0) (h1 : ByteRow w a1 len1 z1) :
    Calls Try.prog 3 #[.slice a0 len0 cap0, .slice a1 len1 cap1, .int .i64 stop] w fun e w' => e = .returned (.bool true) ∧ Below w.heap.size w w' := by
  have H0 := hid h0
  have H1 := hid h1
  have M0 := hid m0
  have M1 := hid m1
  clear h0 h1 m0 m1
  by_cases k0 : (4096 : Int) < (len0 : Int)
  · go_enter Try.func3, Try.ntmps3
    go_wp2_with fail
    refine (bytes5 _ _ _ _ _ _ _ M0.out M1.out _).mono ?_
    rintro e w' ⟨⟨b, rfl⟩, rfl⟩
    cases b
    all_goals
      go_wp2_with fail
      go_ret
      exact ⟨rfl, Below.refl _ _⟩
  by_cases k1 : (4096 : Int) < (len1 : Int)
  · go_enter Try.func3, Try.ntmps3
    go_wp2_with fail
    refine (bytes5 _ _ _ _ _ _ _ M0.out M1.out _).mono ?_
    rintro e w' ⟨⟨b, rfl⟩, rfl⟩
    cases b
    all_goals
      go_wp2_with fail
      go_ret
      exact ⟨rfl, Below.refl _ _⟩
  have l0 : len0 ≤ 4096 := by omega
  have l1 : len1 ≤ 4096 := by omega
  go_enter Try.func3, Try.ntmps3
  go_wp2_with fail
  refine (bytes5 _ _ _ _ _ _ _ M0.out M1.out _).mono ?_
  rintro e w' ⟨⟨b, rfl⟩, rfl⟩
  cases b
  · go_wp2_with fail
    go_ret
    exact ⟨rfl, Below.refl _ _⟩
  go_wp2_with fail
  refine (tree_any a0 len0 cap0 z0 a1 len1 cap1 z1 _ l0 l1 H0.out H1.out).mono ?_
  rintro e w1 ⟨x, a, c, l, rfl, HT⟩
  go_wp2_with fail
  refine (all_any x HT.out.isE stop l (by have := HT.out.len; omega) w1 HT.out.sp).mono ?_
  rintro e w2 ⟨ga, gc, rfl, HO, HB⟩
  obtain ⟨p1, p2, p3⟩ := cut_pre stop l
  generalize cutAt stop l = M at HO p1 p2 p3
  have hll := HT.out.len
  have HP1 := hid p1
  clear p1
  have fin : ∀ k, Below w'.heap.size w' (w2.drewN k) := fun k => (HT.out.below.trans (HB.out.mono HT.out.below.size)).trans ⟨rfl, rfl, rfl, Nat.le_refl _, fun _ _ => rfl⟩
  have HF := hid fin
  clear fin
  have cells : ∀ (r : Nat), r < M.length → ∃ y r1 r2, ga = some ⟨r1, 0, none⟩ ∧ a = some ⟨r2, 0, none⟩ ∧ (r < l.length) ∧ w2.cell? ⟨r1, r, none⟩ = some y ∧ w2.cell? ⟨r2, r, none⟩ = some y ∧ ∃ ks, Kids w1 (fun k => k < w1.heap.size) y ks := by
    intro r hr
    have hy : M[r]? = some M[r] := List.getElem?_eq_getElem hr
    have hyl := HP1.out r _ hy
    obtain ⟨r1, e1, _, c1⟩ := owns_cell HO.out r _ hy
    obtain ⟨r2, e2, h2, c2⟩ := owns_cell HT.out.row r _ hyl
    exact ⟨M[r], r1, r2, e1, e2, (List.getElem?_eq_some_iff.1 hyl).1, c1, (HB.out.cell h2).trans c2, HT.out.sp.kids _ (List.mem_of_getElem? hyl)⟩
  have HC := hid cells
  clear cells
  by_cases hs : 1 ≤ stop ∧ stop < (l.length : Int)
  · obtain ⟨s1, s2⟩ := hs
    have hst := p2 s1 s2
    clear p2 p3
    subst hst
    go_wp2_with fail
    go_loopw [11] (fun iv wr => ∃ (r k : Nat), r ≤ M.length ∧ iv = .int .i64 (r : Int) ∧ Hid (wr = w2.drewN k)) (fun iv _ => M.length - (intOf iv).toNat)
    case atStart => exact ⟨0, 0, Nat.zero_le _, rfl, rfl⟩
    case round =>
      obtain ⟨r, k, hr, rfl, HWR⟩ := hrel
      by_cases hrM : r < M.length
      · have hrM' : (r : Int) < (M.length : Int) := by omega
        obtain ⟨y, r1, r2, rfl, rfl, hrl, c1, c2, ks, hk⟩ := HC.out r hrM
        have hrl' : (r : Int) < (l.length : Int) := by omega
        have HKS := hid hk
        clear hk
        have d1 : wr.cell? ⟨r1, r, none⟩ = some y := by rw [HWR.out]; exact c1
        have d2 : wr.cell? ⟨r2, r, none⟩ = some y := by rw [HWR.out]; exact c2
        go_wp2
        go_quiet ((go_at_call 8; exact Calls.quiet_of_same (same_any y HKS.out _)))
        go_wp2_with fail
        go_roundw
        case rel => exact ⟨r + 1, k + nq, by omega, rfl, hid (by rw [HWR.out, World.drewN_drewN])⟩
        case measure => simp [intOf]; omega
      · have hrM' : ¬ (r : Int) < (M.length : Int) := by omega
        go_wp2_with fail
        go_ret
        exact ⟨rfl, by rw [HWR.out]; exact HF.out k⟩
  · have hst := p3 hs
    have hst' : (M.length : Int) = (l.length : Int) := by omega
    by_cases s1 : 1 ≤ stop
    · have s2 : ¬ stop < (l.length : Int) := fun h => hs ⟨s1, h⟩
      clear p2 p3 hs
      go_wp2_with fail
      go_loopw [11] (fun iv wr => ∃ (r k : Nat), r ≤ M.length ∧ iv = .int .i64 (r : Int) ∧ Hid (wr = w2.drewN k)) (fun iv _ => M.length - (intOf iv).toNat)
      case atStart => exact ⟨0, 0, Nat.zero_le _, rfl, rfl⟩
      case round =>
        obtain ⟨r, k, hr, rfl, HWR⟩ := hrel
        by_cases hrM : r < M.length
        · have hrM' : (r : Int) < (M.length : Int) := by omega
          obtain ⟨y, r1, r2, rfl, rfl, hrl, c1, c2, ks, hk⟩ := HC.out r hrM
          have hrl' : (r : Int) < (l.length : Int) := by omega
          have HKS := hid hk
          clear hk
          have d1 : wr.cell? ⟨r1, r, none⟩ = some y := by rw [HWR.out]; exact c1
          have d2 : wr.cell? ⟨r2, r, none⟩ = some y := by rw [HWR.out]; exact c2
          go_wp2
          go_quiet ((go_at_call 8; exact Calls.quiet_of_same (same_any y HKS.out _)))
          go_wp2_with fail
          go_roundw
          case rel => exact ⟨r + 1, k + nq, by omega, rfl, hid (by rw [HWR.out, World.drewN_drewN])⟩
          case measure => simp [intOf]; omega
        · have hrM' : ¬ (r : Int) < (M.length : Int) := by omega
          have hrl' : ¬ (r : Int) < (l.length : Int) := by omega
          go_wp2_with fail
          go_ret
          exact ⟨rfl, by rw [HWR.out]; exact HF.out k⟩
    · clear p2 p3 hs
      go_wp2_with fail
      go_loopw [11] (fun iv wr => ∃ (r k : Nat), r ≤ M.length ∧ iv = .int .i64 (r : Int) ∧ Hid (wr = w2.drewN k)) (fun iv _ => M.length - (intOf iv).toNat)
      case atStart => exact ⟨0, 0, Nat.zero_le _, rfl, rfl⟩
      case round =>
        obtain ⟨r, k, hr, rfl, HWR⟩ := hrel
        by_cases hrM : r < M.length
        · have hrM' : (r : Int) < (M.length : Int) := by omega
          obtain ⟨y, r1, r2, rfl, rfl, hrl, c1, c2, ks, hk⟩ := HC.out r hrM
          have hrl' : (r : Int) < (l.length : Int) := by omega
          have HKS := hid hk
          clear hk
          have d1 : wr.cell? ⟨r1, r, none⟩ = some y := by rw [HWR.out]; exact c1
          have d2 : wr.cell? ⟨r2, r, none⟩ = some y := by rw [HWR.out]; exact c2
          go_wp2
          go_quiet ((go_at_call 8; exact Calls.quiet_of_same (same_any y HKS.out _)))
          go_wp2_with fail
          go_roundw
          case rel => exact ⟨r + 1, k + nq, by omega, rfl, hid (by rw [HWR.out, World.drewN_drewN])⟩
          case measure => simp [intOf]; omega
        · have hrM' : ¬ (r : Int) < (M.length : Int) := by omega
          have hrl' : ¬ (r : Int) < (l.length : Int) := by omega
          go_wp2_with fail
          go_ret
          exact ⟨rfl, by rw [HWR.out]; exact HF.out k⟩
end Go.Proofs.Qxb6613185a
