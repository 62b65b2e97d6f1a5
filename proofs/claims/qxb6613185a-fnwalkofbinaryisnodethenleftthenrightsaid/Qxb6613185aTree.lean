/-
  build at every place; zzWalkTree.
-/
import Derived.Test.Qxb6613185aBuildUnary
import Derived.Test.Qxb6613185aBuildBinary
import Derived.Test.Qxb6613185aBuildBetween
import Derived.Test.Qxb6613185aBuildIsnull
import Derived.Test.Qxb6613185aBuildAggbare
import Derived.Test.Qxb6613185aBuildNilkind
import Derived.Test.Qxb6613185aBuildAgg
import Derived.Test.Qxb6613185aBuildCall
import Derived.Test.Qxb6613185aBuildInlist
namespace Go.Proofs.Qxb6613185a
open Go.RowKit
set_option linter.unusedVariables false

theorem build_step (I : In) (p : Nat) (ih : ∀ q, p < q → Builds I q) : Builds I p := by
  by_cases hp : p < I.K
  · by_cases h0 : I.zk.getD p 0 = 0
    · exact build_unary I p hp h0 ih
    by_cases h1 : I.zk.getD p 0 = 1
    · exact build_binary I p hp h1 ih
    by_cases h2 : I.zk.getD p 0 = 2
    · exact build_between I p hp h2 ih
    by_cases h3 : I.zk.getD p 0 = 3
    · exact build_inlist I p hp h3 ih
    by_cases h4 : I.zk.getD p 0 = 4
    · exact build_isnull I p hp h4 ih
    by_cases h5 : I.zk.getD p 0 = 5
    · exact build_agg I p hp h5 ih
    by_cases h6 : I.zk.getD p 0 = 6
    · exact build_aggbare I p hp h6 ih
    by_cases h7 : I.zk.getD p 0 = 7
    · exact build_call I p hp h7 ih
    · intro w a c xs hst hpK hbd
      obtain ⟨_, _, _, _, _, hz0, hz1⟩ := hst.ok.kinds p hp
      exact build_nilkind I p hp (by omega) ih w a c xs hst hpK hbd
  · exact build_end I p (by omega)

theorem build_all (I : In) : ∀ n p, I.K - p ≤ n → Builds I p
  | 0, p, h => build_end I p (by omega)
  | n + 1, p, h => build_step I p fun q hq => by
    by_cases hK : I.K ≤ p
    · exact build_end I q (by omega)
    · exact build_all I n q (by omega)

theorem owns_base {w : World} {B B' e n : Nat} {v : Value} {xs : List Value} (h : w.ownsRow B e 1 v n xs) (hB : B' ≤ B) : w.ownsRow B' e 1 v n xs := by
  obtain ⟨h1, h2 | ⟨g, cap, cur, hv, hbg, rest⟩⟩ := h
  · exact ⟨h1, .inl h2⟩
  · exact ⟨h1, .inr ⟨g, cap, cur, hv, Nat.le_trans hB hbg, rest⟩⟩

/-- WHAT IS KNOWN OF A SLICE OF BYTES THAT CAME IN. -/
def ByteRow (w : World) (a : Option Addr) (n : Nat) (z : List Int) : Prop :=
  ∀ j, j < n → ∃ b o, a = some ⟨b, o, none⟩ ∧ b < w.heap.size ∧ w.cell? ⟨b, o + j, none⟩ = some (.int .u8 (z.getD j 0)) ∧ 0 ≤ z.getD j 0 ∧ z.getD j 0 ≤ 255

/-- A tree and what 'want' says of it. -/
structure Tree (w w' : World) (x : Value) (a : Option Addr) (c : Nat) (l : List Value) : Prop where
  isE : IsE x
  len : l.length ≤ 1048577
  row : w'.ownsRow w.heap.size 25 1 (.slice a l.length c) l.length l
  sp : Spell w' (fun k => k < w'.heap.size) l [x]
  below : Below w.heap.size w w'

set_option maxHeartbeats 2000000 in
/-- zzWalkTree. -/
theorem tree_any (ka : Option Addr) (K kc : Nat) (zk : List Int) (aa : Option Addr) (A ac : Nat) (za : List Int) (w : World) (hK : K ≤ 4096) (hA : A ≤ 4096) (h1 : ByteRow w ka K zk) (h2 : ByteRow w aa A za) :
    Calls Try.prog 6 #[.slice ka K kc, .slice aa A ac] w fun e w' => ∃ x a c l, e = .returned (.tuple #[x, .slice a (List.length l) c]) ∧ Hid (Tree w w' x a c l) := by
  have hW : (w.alloc (.cells #[.slice ka K kc, .slice aa A ac, .int .i64 0, .slice none 0 0] 38)).heap[w.heap.size]? = some (.cells #[.slice ka K kc, .slice aa A ac, .int .i64 0, .slice none 0 0] 38 (0, 0)) := by
    show (w.heap.push _)[w.heap.size]? = _; simp
  have hst : St ⟨w.heap.size, ka, K, kc, zk, aa, A, ac, za⟩ (w.alloc (.cells #[.slice ka K kc, .slice aa A ac, .int .i64 0, .slice none 0 0] 38)) 0 none 0 [] := by
    refine ⟨⟨hK, hA, fun j hj => ?_, fun j hj => ?_⟩, hW, World.ownsRow_nil _ _ _ _⟩
    · obtain ⟨b, o, e1, e2, e3, e4⟩ := h1 j hj
      exact ⟨b, o, e1, e2, (World.cell?_of_block (w := w) (Below.heap_alloc _ _ _ e2)).trans e3, e4⟩
    · obtain ⟨b, o, e1, e2, e3, e4⟩ := h2 j hj
      exact ⟨b, o, e1, e2, (World.cell?_of_block (w := w) (Below.heap_alloc _ _ _ e2)).trans e3, e4⟩
  have B := build_all ⟨w.heap.size, ka, K, kc, zk, aa, A, ac, za⟩ K 0 (by show K - 0 ≤ K; omega) _ _ _ _ hst (Nat.zero_le _) (by simp; omega)
  have HB := hid B
  clear B hst hW
  go_enter Try.func6, Try.ntmps6
  go_wp2_with fail
  refine HB.out.mono ?_
  rintro e w1 ⟨x, p', a, c, l, rfl, HR⟩
  obtain ⟨g0, g1, g2, g3, gf⟩ := HR.out.st.cell
  simp only [List.nil_append] at g3
  clear g0 g1 g2 gf
  go_wp2
  go_quiet (fail)
  go_wp2_with fail
  go_ret2
  refine ⟨x, a, c, l, rfl, HR.out.isE, ?_, ?_, ?_, ?_⟩
  · have h3 := HR.out.len
    have h4 := HR.out.leK
    simp only at h4
    omega
  · have := HR.out.st.drewN nq
    have h5 := this.row
    simp only [List.nil_append] at h5
    exact owns_base h5 (by simp)
  · refine Spell.mono (w := w1) (w' := w1.drewN nq) (C' := fun k => k < (w1.drewN nq).heap.size) (fun k hk => ?_) HR.out.sp
    exact ⟨hk.2.1, rfl⟩
  · have hf := HR.out.fr.drewN nq
    have hs : w.heap.size + 1 ≤ (w1.drewN nq).heap.size := by have := hf.size; simpa using this
    exact ⟨hf.os, hf.tape, hf.output, by omega, fun k hk => ((hf.keep k (by simp; omega) (by simp only; omega) (by simp)).2).trans (Below.heap_alloc _ _ _ hk)⟩
end Go.Proofs.Qxb6613185a
