/-
  build: Aggregate without an operand.
-/
import Derived.Test.Qxb6613185aMid
namespace Go.Proofs.Qxb6613185a
open Go.RowKit
set_option linter.unusedVariables false

set_option maxRecDepth 100000 in
set_option maxHeartbeats 8000000 in
theorem build_aggbare (I : In) (p : Nat) (hp : p < I.K) (hkind : I.zk.getD p 0 = 6) (ih : ∀ q, p < q → Builds I q) : Builds I p := by
  intro w a c xs hst hpK hbd
  obtain ⟨h0, h1, h2, h3, hf⟩ := hst.cell
  have hK4 := hst.ok.K4
  obtain ⟨i0, hinfo, hz0, hz1, hz2⟩ := info_parts Try.info25
  have Hi := hid hinfo
  have Hz0 := hid hz0
  have Hz1 := hid hz1
  have Hz2 := hid hz2
  have HS := hid hst
  have IH := hid ih
  have hge : ¬ (I.K : Int) ≤ (p : Int) := by omega
  have hbb := hst.lt
  clear hinfo hz0 hz1 hz2 hst h1 ih
  go_enter Try.func10, Try.ntmps10
  go_wp2
  go_quiet (fail)
  obtain ⟨w0, hw0⟩ : ∃ w0, w.drewN nq = w0 := ⟨_, rfl⟩
  rw [hw0]
  have HS0 := hid (HS.out.drewN nq)
  have HF0 := hid ((Fr.refl I.bb w a).drewN nq)
  have hsz : w0.heap.size = w.heap.size := by rw [← hw0]; rfl
  rw [hw0] at HS0 HF0
  have Hsz := hid hsz
  have hbb0 : I.bb < w0.heap.size := by omega
  obtain ⟨g0, g1, g2, g3, gf⟩ := HS0.out.cell
  obtain ⟨kb, ko, hka, hkb, hkc, hkz0, hkz1⟩ := HS0.out.ok.kinds p hp
  rw [hka] at g0
  rw [hkind] at hkc
  clear hkind
  have hkc' : (w0.setCell ⟨I.bb, 2, none⟩ (.int .i64 ((p : Int) + 1))).cell? ⟨kb, ko + p, none⟩ = some (.int .u8 6) := (World.cell?_of_block (w := w0) (Below.heap_setCell _ _ _ _ (by show kb ≠ I.bb; omega))).trans hkc
  have hpK' : (p : Int) < (I.K : Int) := by omega
  have Hka := hid hka
  have hrow : ∀ k, w0.heap.size ≤ k → some k ≠ a.map (·.block) := fun k hk e => by have := HS0.out.rowlt k e; omega
  have Hrow := hid hrow
  clear h0 h2 h3 hf hw0 hsz hkc hka hrow
  by_cases hA : p < I.A
  · obtain ⟨ab, ao, haa, hab, hac, hm0, hm1⟩ := HS0.out.ok.arity p hA
    rw [haa] at g1
    have hac' : (w0.setCell ⟨I.bb, 2, none⟩ (.int .i64 ((p : Int) + 1))).cell? ⟨ab, ao + p, none⟩ = some (.int .u8 (I.za.getD p 0)) := (World.cell?_of_block (w := w0) (Below.heap_setCell _ _ _ _ (by show ab ≠ I.bb; omega))).trans hac
    have hA' : (p : Int) < (I.A : Int) := by omega
    generalize I.za.getD p 0 = m at hac' hm0 hm1 hac
    clear hac haa
    have HS1 := hid ((HS0.out.next).alloc (.cells #[.int .i64 0, .nilIface, .bool false] 57))
    go_wp2_with (at_builtin; refine wpList_append_own_at _ rfl (.tmp 263) (.tmp 266) 26 rfl (I.bb + 1) 25 i0 .nilIface 1 16 Try.underlying26 Hi.out Hz0.out Hz1.out Hz2.out rfl (by decide) _ _ _ rfl (HS1.out.row.alloc _) ⟨_, 0, none⟩ 1 1 [.iface 54 (.pointer (some ⟨w0.heap.size, 0, none⟩))] rfl rfl (cell_new1 _ _ _ _ (by simp)) (one_one rfl) (by unfold maxLen; omega) (by omega) (by simp; omega) ?_)
    intro v' w' hown' hgrow _ hat
    obtain ⟨a', c', rfl, hc3, hf3, HS2, HF2⟩ := after_push HS1.out (by simp) hown' hgrow hat
    have HM := hid (mid_start hp (HF0.out.setSelf 2 _) (by simp [World.setCell]) (Hrow.out _ (Nat.le_refl _)) hbb0 HS2.out HF2.out)
    clear hown' hgrow hat HS1 HS2 HF2
    go_wp2_with fail
    go_ret
    have hnode := HM.out.node
    exact ⟨_, _, _, _, _, rfl, HM.out.done (by simp) (isE_nd 54 _) (by intro h; cases h) (fun C hC _ => .inr (.inr (.inr (.inr (.inr (.inr (.inl ⟨_, _, rfl, hC, by simp [World.cell?, hnode], .inl ⟨rfl, rfl⟩⟩)))))))⟩
  · have hA' : ¬ (p : Int) < (I.A : Int) := by omega
    have HS1 := hid ((HS0.out.next).alloc (.cells #[.int .i64 0, .nilIface, .bool false] 57))
    go_wp2_with (at_builtin; refine wpList_append_own_at _ rfl (.tmp 263) (.tmp 266) 26 rfl (I.bb + 1) 25 i0 .nilIface 1 16 Try.underlying26 Hi.out Hz0.out Hz1.out Hz2.out rfl (by decide) _ _ _ rfl (HS1.out.row.alloc _) ⟨_, 0, none⟩ 1 1 [.iface 54 (.pointer (some ⟨w0.heap.size, 0, none⟩))] rfl rfl (cell_new1 _ _ _ _ (by simp)) (one_one rfl) (by unfold maxLen; omega) (by omega) (by simp; omega) ?_)
    intro v' w' hown' hgrow _ hat
    obtain ⟨a', c', rfl, hc3, hf3, HS2, HF2⟩ := after_push HS1.out (by simp) hown' hgrow hat
    have HM := hid (mid_start hp (HF0.out.setSelf 2 _) (by simp [World.setCell]) (Hrow.out _ (Nat.le_refl _)) hbb0 HS2.out HF2.out)
    clear hown' hgrow hat HS1 HS2 HF2
    go_wp2_with fail
    go_ret
    have hnode := HM.out.node
    exact ⟨_, _, _, _, _, rfl, HM.out.done (by simp) (isE_nd 54 _) (by intro h; cases h) (fun C hC _ => .inr (.inr (.inr (.inr (.inr (.inr (.inl ⟨_, _, rfl, hC, by simp [World.cell?, hnode], .inl ⟨rfl, rfl⟩⟩)))))))⟩
end Go.Proofs.Qxb6613185a
