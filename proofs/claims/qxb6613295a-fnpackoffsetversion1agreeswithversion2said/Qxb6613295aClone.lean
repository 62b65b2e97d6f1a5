/-
  THE SMALL CALLEES: zzBytes.., zzHashSize, zzCloneBytes.
-/
import Derived.Test.Qxb6613295aRows
import Derived.WalkKit
import Derived.WalkSpells
import Derived.Outline
import Derived.Laws.CopyOwn
namespace Go.Proofs.Qxb6613295a
open Go.RowKit

theorem Try.info5 : (Try.prog.info? 5).map (fun i => (i.zero, i.size, i.bytes)) = some (some (.int .u8 0), 1, 1) := by kernel_rfl

/-- zzBytes_..: do the two lengths add up to at most 2^20? -/
theorem bytes_any (h i : Int) (a1 : Option Addr) (n1 c1 : Nat) (a2 : Option Addr) (n2 c2 : Nat) (h1 : n1 ≤ maxLen) (h2 : n2 ≤ maxLen) (w : World) :
    Calls Try.prog 4 #[.int .u8 h, .slice a1 n1 c1, .slice a2 n2 c2, .int .i64 i] w fun e w' => e = .returned (.bool (decide (n1 + n2 ≤ 1048576))) ∧ w' = w := by
  unfold maxLen at h1 h2
  by_cases k1 : 1048576 < n1
  · have e : decide (n1 + n2 ≤ 1048576) = false := by simp; omega
    rw [e]; clear e
    have k1' : (1048576 : Int) < (n1 : Int) := by omega
    go_enter Try.func4, Try.ntmps4
    go_wp2
    go_ret
    exact ⟨rfl, rfl⟩
  · have k1' : ¬ (1048576 : Int) < (n1 : Int) := by omega
    by_cases k2 : 1048576 < n2
    · have e : decide (n1 + n2 ≤ 1048576) = false := by simp; omega
      rw [e]; clear e
      have k2' : (1048576 : Int) < (n2 : Int) := by omega
      go_enter Try.func4, Try.ntmps4
      go_wp2
      go_ret
      exact ⟨rfl, rfl⟩
    · have k2' : ¬ (1048576 : Int) < (n2 : Int) := by omega
      by_cases k3 : 1048576 < n1 + n2
      · have e : decide (n1 + n2 ≤ 1048576) = false := by simp; omega
        rw [e]; clear e
        go_enter Try.func4, Try.ntmps4
        go_wp2
        go_ret
        exact ⟨rfl, rfl⟩
      · have e : decide (n1 + n2 ≤ 1048576) = true := by simp; omega
        rw [e]; clear e
        go_enter Try.func4, Try.ntmps4
        go_wp2
        go_ret
        exact ⟨rfl, rfl⟩

/-- zzHashSize at the two hashes. -/
theorem size_any (h : Int) (h0 : 0 ≤ h) (h1 : h ≤ 1) (w : World) :
    Calls Try.prog 5 #[.int .u8 h] w fun e w' => e = .returned (.int .i64 (20 + 12 * h)) ∧ w' = w := by
  by_cases k : h = 1
  · subst k
    go_enter Try.func5, Try.ntmps5
    go_wp2
    go_ret
    exact ⟨rfl, rfl⟩
  · obtain rfl : h = 0 := by omega
    go_enter Try.func5, Try.ntmps5
    go_wp2
    go_ret
    exact ⟨rfl, rfl⟩

/-- THE BYTES 'z' LIE BEHIND THE SLICE VALUE 'v' of 'n' elements, in a block from B on. -/
def Bytes (w : World) (B : Nat) (v : Value) (n : Nat) (z : List Int) : Prop :=
  z.length = n ∧ (∀ x ∈ z, (Lit.int .u8 x).wf = true) ∧
  ((v = .slice none 0 0 ∧ n = 0) ∨ ∃ g cap, v = .slice (some ⟨g, 0, none⟩) n cap ∧ B ≤ g ∧ g < w.heap.size ∧ n ≤ cap ∧ cap ≤ maxLen ∧ ∀ j, j < n → w.cell? ⟨g, j, none⟩ = some (.int .u8 (z.getD j 0)))

theorem cell_lt {w : World} {a : Addr} {v : Value} (h : w.cell? a = some v) : a.block < w.heap.size := by
  unfold World.cell? at h
  by_cases hb : a.block < w.heap.size
  · exact hb
  · simp [Array.getElem?_eq_none (Nat.le_of_not_lt hb)] at h

/-- zzCloneBytes of a slice that is not nil. -/
theorem clone_some (x : Addr) (n c : Nat) (z : List Int) (w : World) (hz : z.length = n) (hn : n ≤ 1048576) (hw : ∀ x ∈ z, (Lit.int .u8 x).wf = true)
    (hc : ∀ j, j < n → w.cell? (x.add j) = some (.int .u8 (z.getD j 0))) :
    Calls Try.prog 6 #[.slice (some x) n c] w fun e w' => ∃ v, e = .returned v ∧ Bytes w' w.heap.size v n z ∧ Below w.heap.size w w' := by
  obtain ⟨i0, hi, hz0, hz1, hz2⟩ := info_parts Try.info5
  have hnil := fun w : World => Lib.run_eql_slice_nil (P := Try.prog) w 22 5 (some x) n c 0 0 Try.underlying22
  simp only [Option.isNone_some] at hnil
  go_enter Try.func6, Try.ntmps6
  go_wp2_with (at_make; refine wpList_make_full _ rfl _ _ 22 rfl w.heap.size 5 i0 (.int .u8 0) 1 Try.underlying22 hi hz0 hz1 _ _ _ _ n rfl rfl rfl rfl ?c1 ?c2 ?c3 ?_)
  case c1 => rw [hz2]; omega
  case c2 => unfold maxLen; omega
  case c3 => omega
  intro w1 hown hgrow
  obtain ⟨cur, hh, hsz⟩ : ∃ cur : List Value, w1.heap[w.heap.size]? = some (.cells cur.toArray 5 (0, 0)) ∧ cur.length = n := by
    obtain ⟨_, ⟨h, _⟩ | ⟨g, cap, cur, hv, hbg, hh, hncap, hmax, hsz, _⟩⟩ := hown
    · cases h
    · simp only [Value.slice.injEq, Option.some.injEq, Addr.mk.injEq, true_and, and_true] at hv
      obtain ⟨rfl, rfl⟩ := hv
      exact ⟨cur.toList, by simpa using hh, by simpa using hsz⟩
  have hbel : Below w.heap.size w w1 := (Below.refl _ w).grown hgrow (Nat.le_refl _) (by intro g h; cases h)
  have hsz' := hgrow.size
  clear hown hgrow
  have HH : Hid (w1.heap[w.heap.size]? = some (.cells cur.toArray 5 (0, 0))) := hh
  have HB : Hid (Below w.heap.size w w1) := hbel
  have HC : Hid (∀ j, j < n → w.cell? (x.add j) = some (.int .u8 (z.getD j 0))) := hc
  clear hh hbel hc
  have hsize : (Try.prog.info? 5).map (·.size) = some 1 := by rw [hi]; simp [hz1]
  iterate 14 go_step
  refine wpList_copy_splice rfl (.tmp 9) (.tmp 10) 22 22 rfl 5 Try.underlying22 hsize (some ⟨w.heap.size, 0, none⟩) (some x) n n n c rfl rfl w.heap.size 0 cur 5 HH.out (z.map (Value.int .u8)) ?d1 ?d2 ?d3 ?d4 w.heap.size w HB.out (Nat.le_refl _) ?_
  case d1 => simp [hz]
  case d2 =>
    intro _
    refine ⟨rfl, x, rfl, fun j v hj => ?_⟩
    obtain ⟨hj1, rfl⟩ := List.getElem?_eq_some_iff.1 hj
    have hjn : j < n := by simpa [hz] using hj1
    have h := HC.out j hjn
    rw [HB.out.cell (cell_lt h), h]
    simp [List.getD_eq_getElem?_getD, hz, hjn]
  case d3 => simp [hz, hsz]
  case d4 => exact ints_oneCell _ _
  intro w2 H2 hb2
  go_wp2
  go_ret
  refine ⟨_, rfl, ⟨hz, hw, .inr ⟨w.heap.size, n, rfl, Nat.le_refl _, ?_, Nat.le_refl _, by unfold maxLen; omega, fun j hj => ?_⟩⟩, hb2⟩
  · have := (Array.getElem?_eq_some_iff.1 H2.out).1; exact this
  · have h2 := H2.out
    have hs : splice cur 0 (z.map (Value.int .u8)) = z.map (Value.int .u8) := by
      simp [splice, List.drop_eq_nil_of_le (show cur.length ≤ z.length by omega)]
    rw [hs] at h2
    simp only [World.cell?, h2]
    simp [List.getD_eq_getElem?_getD, hz, hj]

/-- zzCloneBytes of nil. -/
theorem clone_none (w : World) : Calls Try.prog 6 #[.slice none 0 0] w fun e w' => ∃ v, e = .returned v ∧ Bytes w' w.heap.size v 0 [] ∧ Below w.heap.size w w' := by
  have hnil := fun w : World => Lib.run_eql_slice_nil (P := Try.prog) w 22 5 none 0 0 0 0 Try.underlying22
  simp only [Option.isNone_none] at hnil
  go_enter Try.func6, Try.ntmps6
  go_wp2
  go_ret
  exact ⟨_, rfl, ⟨rfl, by simp, .inl ⟨rfl, rfl⟩⟩, Below.refl _ _⟩
end Go.Proofs.Qxb6613295a
