/-
  zzBE32: four bytes, the greatest first.
-/
import Derived.Test.Qxb6613295aClone
import Derived.Deep.QuietTactic
import Derived.BigQuiet
import Derived.Lib.EndianBits
import Derived.Lib.EndianZ
import Derived.WalkLawsBesides
import Derived.Laws.BitsAllLaws
namespace Go.Proofs.Qxb6613295a
open Go.RowKit

theorem or_comm32 (a b : Int) (h0 : 0 ≤ a) (h1 : a < 4294967296) (h2 : 0 ≤ b) (h3 : b < 4294967296) : bits .or .u32 a b = bits .or .u32 b a := by
  rw [u32_or a b h0 h1 h2 h3, u32_or b a h2 h3 h0 h1, Nat.or_comm]

theorem be_sum (x0 x1 x2 x3 : Int) (b0 : 0 ≤ x0) (b0' : x0 ≤ 255) (b1 : 0 ≤ x1) (b1' : x1 ≤ 255) (b2 : 0 ≤ x2) (b2' : x2 ≤ 255) (b3 : 0 ≤ x3) (b3' : x3 ≤ 255) :
    bits .or .u32 (bits .or .u32 (bits .or .u32 (x0 * 16777216) (x1 * 65536)) (x2 * 256)) x3 = Lib.beZ [x0, x1, x2, x3] := by
  rw [or_comm32 (x0 * 16777216) (x1 * 65536) (by omega) (by omega) (by omega) (by omega), u32_or24 (y := x1 * 65536) (x := x0 * 16777216) (by omega) (by omega) (by omega) (by omega) (by omega),
    or_comm32 (x1 * 65536 + x0 * 16777216) (x2 * 256) (by omega) (by omega) (by omega) (by omega), u32_or16 (y := x2 * 256) (x := x1 * 65536 + x0 * 16777216) (by omega) (by omega) (by omega) (by omega) (by omega),
    or_comm32 (x2 * 256 + (x1 * 65536 + x0 * 16777216)) x3 (by omega) (by omega) (by omega) (by omega), u32_or8 (y := x3) (x := x2 * 256 + (x1 * 65536 + x0 * 16777216)) (by omega) (by omega) (by omega) (by omega) (by omega)]
  simp only [Lib.beZ, Lib.beFromZ]
  omega

/-- zzBE32. -/
theorem be_any (g n c k : Nat) (x0 x1 x2 x3 : Int) (w : World) (hk : k + 4 ≤ n) (hn : n ≤ 1048576)
    (c0 : w.cell? ⟨g, k, none⟩ = some (.int .u8 x0)) (c1 : w.cell? ⟨g, k + 1, none⟩ = some (.int .u8 x1)) (c2 : w.cell? ⟨g, k + 2, none⟩ = some (.int .u8 x2)) (c3 : w.cell? ⟨g, k + 3, none⟩ = some (.int .u8 x3))
    (b0 : 0 ≤ x0) (b0' : x0 ≤ 255) (b1 : 0 ≤ x1) (b1' : x1 ≤ 255) (b2 : 0 ≤ x2) (b2' : x2 ≤ 255) (b3 : 0 ≤ x3) (b3' : x3 ≤ 255) :
    Calls Try.prog 7 #[.slice (some ⟨g, 0, none⟩) n c, .int .i64 k] w fun e w' => e = .returned (.int .u32 (Lib.beZ [x0, x1, x2, x3])) ∧ Below w.heap.size w w' := by
  have l0 : (k : Int) < (n : Int) := by omega
  have l1 : (k : Int) + 1 < (n : Int) := by omega
  have l2 : (k : Int) + 2 < (n : Int) := by omega
  have l3 : (k : Int) + 3 < (n : Int) := by omega
  have HS : Hid _ := be_sum x0 x1 x2 x3 b0 b0' b1 b1' b2 b2' b3 b3'
  go_enter Try.func7, Try.ntmps7
  go_wp2
  go_quiet (fail)
  go_wp2
  go_ret
  exact ⟨congrArg (fun r => Ending.returned (.int .u32 r)) HS.out, below_drewN (Below.refl _ _) nq⟩

/-- A pack of version v over a store of hash h, its offsets the slice value o, its large offsets l. -/
structure IsPack (w : World) (pb : Nat) (v h : Int) (o l : Value) : Prop where
  lt : pb < w.heap.size
  store : ∃ sb, sb < w.heap.size ∧ w.cell? ⟨pb, 1, none⟩ = some (.pointer (some ⟨sb, 0, none⟩)) ∧ w.cell? ⟨sb, 0, none⟩ = some (.int .u8 h)
  version : w.cell? ⟨pb, 2, none⟩ = some (.int .i64 v)
  offsets : w.cell? ⟨pb, 6, none⟩ = some o
  large : w.cell? ⟨pb, 7, none⟩ = some l

theorem IsPack.below {w w' : World} {pb : Nat} {v h : Int} {o l : Value} (p : IsPack w pb v h o l) (hb : Below w.heap.size w w') : IsPack w' pb v h o l := by
  obtain ⟨sb, hs, h1, h2⟩ := p.store
  exact ⟨Nat.lt_of_lt_of_le p.lt hb.size, ⟨sb, Nat.lt_of_lt_of_le hs hb.size, (hb.cell p.lt).trans h1, (hb.cell hs).trans h2⟩, (hb.cell p.lt).trans p.version, (hb.cell p.lt).trans p.offsets, (hb.cell p.lt).trans p.large⟩

theorem Bytes.below {w w' : World} {B : Nat} {v : Value} {n : Nat} {z : List Int} (p : Bytes w B v n z) (hb : Below w.heap.size w w') : Bytes w' B v n z := by
  obtain ⟨h1, h2, h | ⟨g, cap, h3, h4, h5, h6, h7, h8⟩⟩ := p
  · exact ⟨h1, h2, .inl h⟩
  · exact ⟨h1, h2, .inr ⟨g, cap, h3, h4, Nat.lt_of_lt_of_le h5 hb.size, h6, h7, fun j hj => (hb.cell h5).trans (h8 j hj)⟩⟩

/-- ZZnewPack. -/
theorem pack_any (v h : Int) (a1 : Option Addr) (n1 c1 : Nat) (a2 : Option Addr) (n2 c2 : Nat) (w : World) :
    Calls Try.prog 8 #[.int .i64 v, .int .u8 h, .slice a1 n1 c1, .slice a2 n2 c2] w fun e w' => e = .returned (.pointer (some ⟨w.heap.size + 1, 0, none⟩)) ∧ IsPack w' (w.heap.size + 1) v h (.slice a1 n1 c1) (.slice a2 n2 c2) ∧ Below w.heap.size w w' := by
  go_enter Try.func8, Try.ntmps8
  go_wp2
  go_ret
  refine ⟨rfl, ⟨by simp, ⟨w.heap.size, by simp; omega, ?_, ?_⟩, ?_, ?_, ?_⟩, ((Below.refl _ _).alloc (Nat.le_refl _) _).alloc (by simp) _⟩
  all_goals simp [go_sem]
end Go.Proofs.Qxb6613295a
