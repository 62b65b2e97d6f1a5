/-
  THE LAW's WALK.
-/
import Derived.Test.Qxb6613295aOff2
import Derived.Test.Qxb6613295aTab
namespace Go.Proofs.Qxb6613295a
open Go.RowKit
set_option linter.unusedVariables false

theorem hid {p : Prop} (h : p) : Hid p := h

theorem Bytes.weak {w : World} {B B' : Nat} {v : Value} {n : Nat} {z : List Int} (p : Bytes w B v n z) (hB : B' ≤ B) : Bytes w B' v n z := by
  obtain ⟨h1, h2, h | ⟨g, cap, h3, h4, h5⟩⟩ := p
  · exact ⟨h1, h2, .inl h⟩
  · exact ⟨h1, h2, .inr ⟨g, cap, h3, Nat.le_trans hB h4, h5⟩⟩

/-- What the law uses of zzCloneBytes at the slice that came in: in whatever later world. -/
def Clones (w : World) (a : Option Addr) (n c : Nat) (z : List Int) : Prop :=
  ∀ w1, Below w.heap.size w w1 → Calls Try.prog 6 #[.slice a n c] w1 fun e w' => ∃ a' c', e = .returned (.slice a' n c') ∧ Bytes w' w1.heap.size (.slice a' n c') n z ∧ Below w1.heap.size w1 w'

theorem clones_none (w : World) : Clones w none 0 0 [] := fun w1 _ =>
  (clone_none w1).mono fun e w' ⟨v, he, hB, hb⟩ => by
    obtain ⟨_, _, ⟨rfl, _⟩ | ⟨g, cap, rfl, _⟩⟩ := id hB
    · exact ⟨_, _, he, hB, hb⟩
    · exact ⟨_, _, he, hB, hb⟩

theorem clones_some (w : World) (x : Addr) (n c : Nat) (z : List Int) (hz : z.length = n) (hn : n ≤ 1048576) (hw : ∀ x ∈ z, (Lit.int .u8 x).wf = true)
    (hc : ∀ j, j < n → w.cell? (x.add j) = some (.int .u8 (z.getD j 0))) : Clones w (some x) n c z := fun w1 hb1 =>
  (clone_some x n c z w1 hz hn hw (fun j hj => (hb1.cell (cell_lt (hc j hj))).trans (hc j hj))).mono fun e w' ⟨v, he, hB, hb⟩ => by
    obtain ⟨_, _, ⟨rfl, rfl⟩ | ⟨g, cap, rfl, _⟩⟩ := id hB
    · exact ⟨_, _, he, hB, hb⟩
    · exact ⟨_, _, he, hB, hb⟩

set_option maxHeartbeats 2000000 in
/-- Too long. -/
theorem law_long (h i : Int) (a1 : Option Addr) (n1 c1 : Nat) (a2 : Option Addr) (n2 c2 : Nat) (w : World) (h1 : n1 ≤ maxLen) (h2 : n2 ≤ maxLen) (hlong : 1048576 < n1 + n2) :
    Calls Try.prog 3 #[.int .u8 h, .slice a1 n1 c1, .slice a2 n2 c2, .int .i64 i] w fun e w' => e = .returned (.bool true) ∧ Below w.heap.size w w' := by
  have e : decide (n1 + n2 ≤ 1048576) = false := by simp; omega
  have B := bytes_any h i a1 n1 c1 a2 n2 c2 h1 h2 w
  rw [e] at B
  have HB := hid B
  clear B e
  go_enter Try.func3, Try.ntmps3
  go_wp2_with (go_at_call 4; refine HB.out.mono ?_; rintro e w' ⟨rfl, rfl⟩)
  go_ret
  exact ⟨rfl, Below.refl _ _⟩

set_option maxHeartbeats 2000000 in
/-- No such hash. -/
theorem law_hash (h i : Int) (a1 : Option Addr) (n1 c1 : Nat) (a2 : Option Addr) (n2 c2 : Nat) (w : World) (hs : n1 + n2 ≤ 1048576) (hh : 1 < h) :
    Calls Try.prog 3 #[.int .u8 h, .slice a1 n1 c1, .slice a2 n2 c2, .int .i64 i] w fun e w' => e = .returned (.bool true) ∧ Below w.heap.size w w' := by
  have e : decide (n1 + n2 ≤ 1048576) = true := by simp; omega
  have B := bytes_any h i a1 n1 c1 a2 n2 c2 (by unfold maxLen; omega) (by unfold maxLen; omega) w
  rw [e] at B
  have HB := hid B
  clear B e
  have k1 : ¬ (1048576 : Int) < (n1 : Int) := by omega
  have k2 : ¬ (1048576 : Int) < (n2 : Int) := by omega
  go_enter Try.func3, Try.ntmps3
  go_wp2_with (go_at_call 4; refine HB.out.mono ?_; rintro e w' ⟨rfl, rfl⟩)
  go_ret
  exact ⟨rfl, Below.refl _ _⟩

set_option maxHeartbeats 2000000 in
/-- No such place. -/
theorem law_place (h i : Int) (a1 : Option Addr) (n1 c1 : Nat) (a2 : Option Addr) (n2 c2 : Nat) (w : World) (hs : n1 + n2 ≤ 1048576) (hh0 : 0 ≤ h) (hh : h ≤ 1) (hp : i < 0 ∨ (n1 : Int) < i ∨ (n1 : Int) < (24 + 12 * h) * i + 4) :
    Calls Try.prog 3 #[.int .u8 h, .slice a1 n1 c1, .slice a2 n2 c2, .int .i64 i] w fun e w' => e = .returned (.bool true) ∧ Below w.heap.size w w' := by
  have e : decide (n1 + n2 ≤ 1048576) = true := by simp; omega
  have B := bytes_any h i a1 n1 c1 a2 n2 c2 (by unfold maxLen; omega) (by unfold maxLen; omega) w
  rw [e] at B
  have HB := hid B
  clear B e
  have k1 : ¬ (1048576 : Int) < (n1 : Int) := by omega
  have k2 : ¬ (1048576 : Int) < (n2 : Int) := by omega
  have k3 : ¬ 1 < h := by omega
  by_cases p1 : i < 0
  · clear hp
    go_enter Try.func3, Try.ntmps3
    go_wp2_with (first | (go_at_call 4; refine HB.out.mono ?_; rintro e w' ⟨rfl, rfl⟩) | (go_at_call 5; refine (size_any h hh0 hh _).mono ?_; rintro e w' ⟨rfl, rfl⟩))
    go_ret
    exact ⟨rfl, Below.refl _ _⟩
  by_cases p2 : (n1 : Int) < i
  · clear hp
    go_enter Try.func3, Try.ntmps3
    go_wp2_with (first | (go_at_call 4; refine HB.out.mono ?_; rintro e w' ⟨rfl, rfl⟩) | (go_at_call 5; refine (size_any h hh0 hh _).mono ?_; rintro e w' ⟨rfl, rfl⟩))
    go_ret
    exact ⟨rfl, Below.refl _ _⟩
  have p3 : (n1 : Int) < (24 + 12 * h) * i + 4 := by omega
  clear hp
  rcases (show h = 0 ∨ h = 1 by omega) with rfl | rfl
  · have p3' : (n1 : Int) < 24 * i + 4 := by omega
    clear p3
    go_enter Try.func3, Try.ntmps3
    go_wp2_with (first | (go_at_call 4; refine HB.out.mono ?_; rintro e w' ⟨rfl, rfl⟩) | (go_at_call 5; refine (size_any 0 hh0 hh _).mono ?_; rintro e w' ⟨rfl, rfl⟩))
    go_ret
    exact ⟨rfl, Below.refl _ _⟩
  · have p3' : (n1 : Int) < 36 * i + 4 := by omega
    clear p3
    go_enter Try.func3, Try.ntmps3
    go_wp2_with (first | (go_at_call 4; refine HB.out.mono ?_; rintro e w' ⟨rfl, rfl⟩) | (go_at_call 5; refine (size_any 1 hh0 hh _).mono ?_; rintro e w' ⟨rfl, rfl⟩))
    go_ret
    exact ⟨rfl, Below.refl _ _⟩

theorem four_of (z : List Int) (k : Nat) (h : k + 4 ≤ z.length) : (z.drop k).take 4 = [z.getD k 0, z.getD (k + 1) 0, z.getD (k + 2) 0, z.getD (k + 3) 0] := by
  apply List.ext_getElem?
  intro j
  rcases (show j = 0 ∨ j = 1 ∨ j = 2 ∨ j = 3 ∨ 4 ≤ j by omega) with rfl | rfl | rfl | rfl | hj
  · simp [List.getD_eq_getElem?_getD, List.getElem?_eq_getElem (show k < z.length by omega)]
  · simp [List.getD_eq_getElem?_getD, List.getElem?_eq_getElem (show k + 1 < z.length by omega)]
  · simp [List.getD_eq_getElem?_getD, List.getElem?_eq_getElem (show k + 2 < z.length by omega)]
  · simp [List.getD_eq_getElem?_getD, List.getElem?_eq_getElem (show k + 3 < z.length by omega)]
  · rw [List.getElem?_eq_none (by simp; omega), List.getElem?_eq_none (by simp; omega)]

theorem getD_bounds {z : List Int} (hw : ∀ x ∈ z, (Lit.int .u8 x).wf = true) (j : Nat) (hj : j < z.length) : 0 ≤ z.getD j 0 ∧ z.getD j 0 ≤ 255 := by
  have : z.getD j 0 ∈ z := by
    rw [List.getD_eq_getElem?_getD, List.getElem?_eq_getElem hj]; simp
  exact bounds_u8 (hw _ this)

/-- zzBE32 at a row of bytes. -/
theorem be_word (g n c k B : Nat) (z : List Int) (w : World) (hB : Bytes w B (.slice (some ⟨g, 0, none⟩) n c) n z) (hk : k + 4 ≤ n) (hn : n ≤ 1048576) :
    Calls Try.prog 7 #[.slice (some ⟨g, 0, none⟩) n c, .int .i64 k] w fun e w' => e = .returned (.int .u32 (wordAt z k)) ∧ Below w.heap.size w w' := by
  obtain ⟨hz, hw, ⟨hv, _⟩ | ⟨g', cap, hv, _, _, _, _, hcell⟩⟩ := hB
  · cases hv
  simp only [Value.slice.injEq, Option.some.injEq, Addr.mk.injEq, and_true, true_and] at hv
  obtain ⟨rfl, rfl⟩ := hv
  have b0 := getD_bounds hw k (by omega)
  have b1 := getD_bounds hw (k + 1) (by omega)
  have b2 := getD_bounds hw (k + 2) (by omega)
  have b3 := getD_bounds hw (k + 3) (by omega)
  have e : wordAt z k = Lib.beZ [z.getD k 0, z.getD (k + 1) 0, z.getD (k + 2) 0, z.getD (k + 3) 0] := by
    unfold wordAt; rw [four_of z k (by omega)]
  rw [e]
  exact be_any g n c k _ _ _ _ w hk hn (hcell _ (by omega)) (hcell _ (by omega)) (hcell _ (by omega)) (hcell _ (by omega)) b0.1 b0.2 b1.1 b1.2 b2.1 b2.2 b3.1 b3.2

/-- A row that the call owns, as 'Bytes'. -/
theorem bytes_of_owns {w : World} {B g n cap : Nat} {z : List Int} (h : w.ownsRow B 5 1 (.slice (some ⟨g, 0, none⟩) n cap) n (z.map (Value.int .u8))) (hz : z.length = n) (hw : ∀ x ∈ z, (Lit.int .u8 x).wf = true) :
    Bytes w B (.slice (some ⟨g, 0, none⟩) n cap) n z := by
  refine ⟨hz, hw, .inr ⟨g, cap, rfl, ?_⟩⟩
  obtain ⟨_, ⟨hv, _⟩ | ⟨g', cap', cur, hv, hbg, hh, hnc, hmax, hsz, htake⟩⟩ := id h
  · cases hv
  · simp only [Value.slice.injEq, Option.some.injEq, Addr.mk.injEq, and_true, true_and] at hv
    obtain ⟨rfl, rfl⟩ := hv
    refine ⟨hbg, (Array.getElem?_eq_some_iff.1 hh).1, hnc, hmax, fun j hj => ?_⟩
    rw [h.cellAt j (by omega)]
    simp [List.getD_eq_getElem?_getD, List.getElem?_eq_getElem (show j < z.length by omega)]

/-- One round of the table's loop. -/
theorem tab_owns {w : World} {B g cap e es : Nat} {z : List Int} (h : w.ownsRow B 5 1 (.slice (some ⟨g, 0, none⟩) (4 * e + 4) cap) (4 * e + 4) ((tab z es e).map (Value.int .u8) ++ ((z.map (Value.int .u8)).drop (es * e)).take 4)) :
    w.ownsRow B 5 1 (.slice (some ⟨g, 0, none⟩) (4 * (e + 1)) cap) (4 * (e + 1)) ((tab z es (e + 1)).map (Value.int .u8)) := by
  have e1 : (tab z es (e + 1)).map (Value.int .u8) = (tab z es e).map (Value.int .u8) ++ ((z.map (Value.int .u8)).drop (es * e)).take 4 := by
    simp [tab, List.map_take, List.map_drop]
  rw [e1]
  exact h
end Go.Proofs.Qxb6613295a
