/-
  build: Aggregate with an operand.
-/
import Derived.Test.Qxb6613185aMid
namespace Go.Proofs.Qxb6613185a
open Go.RowKit
set_option linter.unusedVariables false

set_option maxRecDepth 100000 in
set_option maxHeartbeats 8000000 in
theorem build_agg (I : In) (p : Nat) (hp : p < I.K) (hkind : I.zk.getD p 0 = 5) (ih : ∀ q, p < q → Builds I q) : Builds I p := by
  intro w a c xs hst hpK hbd
  obtain ⟨h0, h1, h2, h3, hf⟩ := hst.cell
  have hK4 := hst.ok.K4
  obtain ⟨i0, hinfo, hz0, hz1, hz2⟩ := info_parts Try.info25
  have Hi := hid hinfo
  have Hz0 := hid hz0
  have Hz1 := hid hz1
  have Hz2 := hid hz2
  have HS := hid hst
  have IH := hid ih
  have hge : ¬ (I.K : Int) ≤ (p : Int) := by omega
  have hbb := hst.lt
  clear hinfo hz0 hz1 hz2 hst h1 ih
  go_enter Try.func10, Try.ntmps10
  go_wp2
  go_quiet (fail)
  obtain ⟨w0, hw0⟩ : ∃ w0, w.drewN nq = w0 := ⟨_, rfl⟩
  rw [hw0]
  have HS0 := hid (HS.out.drewN nq)
  have HF0 := hid ((Fr.refl I.bb w a).drewN nq)
  have hsz : w0.heap.size = w.heap.size := by rw [← hw0]; rfl
  rw [hw0] at HS0 HF0
  have Hsz := hid hsz
  have hbb0 : I.bb < w0.heap.size := by omega
  obtain ⟨g0, g1, g2, g3, gf⟩ := HS0.out.cell
  obtain ⟨kb, ko, hka, hkb, hkc, hkz0, hkz1⟩ := HS0.out.ok.kinds p hp
  rw [hka] at g0
  rw [hkind] at hkc
  clear hkind
  have hkc' : (w0.setCell ⟨I.bb, 2, none⟩ (.int .i64 ((p : Int) + 1))).cell? ⟨kb, ko + p, none⟩ = some (.int .u8 5) := (World.cell?_of_block (w := w0) (Below.heap_setCell _ _ _ _ (by show kb ≠ I.bb; omega))).trans hkc
  have hpK' : (p : Int) < (I.K : Int) := by omega
  have Hka := hid hka
  have hrow : ∀ k, w0.heap.size ≤ k → some k ≠ a.map (·.block) := fun k hk e => by have := HS0.out.rowlt k e; omega
  have Hrow := hid hrow
  clear h0 h2 h3 hf hw0 hsz hkc hka hrow
  by_cases hA : p < I.A
  · obtain ⟨ab, ao, haa, hab, hac, hm0, hm1⟩ := HS0.out.ok.arity p hA
    rw [haa] at g1
    have hac' : (w0.setCell ⟨I.bb, 2, none⟩ (.int .i64 ((p : Int) + 1))).cell? ⟨ab, ao + p, none⟩ = some (.int .u8 (I.za.getD p 0)) := (World.cell?_of_block (w := w0) (Below.heap_setCell _ _ _ _ (by show ab ≠ I.bb; omega))).trans hac
    have hA' : (p : Int) < (I.A : Int) := by omega
    generalize I.za.getD p 0 = m at hac' hm0 hm1 hac
    clear hac haa
    have HS1 := hid ((HS0.out.next).alloc (.cells #[.int .i64 0, .nilIface, .bool false] 57))
    go_wp2_with (at_builtin; refine wpList_append_own_at _ rfl (.tmp 224) (.tmp 227) 26 rfl (I.bb + 1) 25 i0 .nilIface 1 16 Try.underlying26 Hi.out Hz0.out Hz1.out Hz2.out rfl (by decide) _ _ _ rfl (HS1.out.row.alloc _) ⟨_, 0, none⟩ 1 1 [.iface 54 (.pointer (some ⟨w0.heap.size, 0, none⟩))] rfl rfl (cell_new1 _ _ _ _ (by simp)) (one_one rfl) (by unfold maxLen; omega) (by omega) (by simp; omega) ?_)
    intro v' w' hown' hgrow _ hat
    obtain ⟨a', c', rfl, hc3, hf3, HS2, HF2⟩ := after_push HS1.out (by simp) hown' hgrow hat
    have HM := hid (mid_start hp (HF0.out.setSelf 2 _) (by simp [World.setCell]) (Hrow.out _ (Nat.le_refl _)) hbb0 HS2.out HF2.out)
    clear hown' hgrow hat HS1 HS2 HF2
    go_wp2_with fail
    refine (IH.out _ (by have := HM.out.le; omega) _ _ _ _ HM.out.st HM.out.leK (HM.out.bound (by simp) hbd)).mono ?_
    rintro e w5 ⟨x5, q5, a5, c5, l5, rfl, HR5⟩
    rcases HR5.out.isE with rfl | ⟨T5, b5, rfl⟩
    · have hl5 := HR5.out.nil rfl
      subst hl5
      obtain ⟨hM6, hc6⟩ := HM.out.back HR5.out
      have HM6 := hid hM6
      obtain ⟨f0, f1, f2, f3, ff⟩ := HR5.out.st.cell
      have hlen : (xs ++ [Value.iface 54 (.pointer (some ⟨w0.heap.size, 0, none⟩))] ++ [Value.nilIface]).length = xs.length + 1 + 1 := by simp
      have hn5 := HM6.out.node
      have hnc5 : (w5.setCell ⟨I.bb, 3, none⟩ (.slice a5 (xs.length + 1) c5)).cell? ⟨w0.heap.size, 1, none⟩ = some .nilIface := by simp [World.cell?, hn5]
      have hnf5 : (w5.setCell ⟨I.bb, 3, none⟩ (.slice a5 (xs.length + 1) c5)).frozen? ⟨w0.heap.size, 1, none⟩ = false := by simp [World.frozen?, hn5]
      rw [hlen] at f3
      have hc6' : (xs.length : Int) + 1 ≤ (c5 : Int) := by omega
      clear f0 f1 f2 hlen hM6 hn5
      have HP6 := hid (HM6.out.putn 1 .nilIface)
      go_wp2_with fail
      go_ret
      have hnode := HP6.out.node
      exact ⟨_, _, _, _, _, rfl, HP6.out.done (by simp) (isE_nd 54 _) (by intro h; cases h) (fun C hC _ => .inr (.inr (.inr (.inr (.inr (.inr (.inl ⟨_, _, rfl, hC, by simp [World.cell?, hnode], .inl ⟨rfl, rfl⟩⟩)))))))⟩
    · have HM5 := hid (HM.out.res HR5.out)
      have hn5 := HM5.out.node
      have hnc5 : w5.cell? ⟨w0.heap.size, 1, none⟩ = some .nilIface := by simp [World.cell?, hn5]
      have hnf5 : w5.frozen? ⟨w0.heap.size, 1, none⟩ = false := by simp [World.frozen?, hn5]
      have HP5 := hid (HM5.out.putn 1 (.iface T5 (.pointer (some ⟨b5, 0, none⟩))))
      clear hn5
      go_wp2_with fail
      go_ret
      have hnode := HP5.out.node
      exact ⟨_, _, _, _, _, rfl, HP5.out.done (by simp) (isE_nd 54 _) (by intro h; cases h) (fun C hC _ => .inr (.inr (.inr (.inr (.inr (.inr (.inl ⟨_, _, rfl, hC, by simp [World.cell?, hnode], .inr ⟨(by intro h; cases h), rfl⟩⟩)))))))⟩
  · have hA' : ¬ (p : Int) < (I.A : Int) := by omega
    have HS1 := hid ((HS0.out.next).alloc (.cells #[.int .i64 0, .nilIface, .bool false] 57))
    go_wp2_with (at_builtin; refine wpList_append_own_at _ rfl (.tmp 224) (.tmp 227) 26 rfl (I.bb + 1) 25 i0 .nilIface 1 16 Try.underlying26 Hi.out Hz0.out Hz1.out Hz2.out rfl (by decide) _ _ _ rfl (HS1.out.row.alloc _) ⟨_, 0, none⟩ 1 1 [.iface 54 (.pointer (some ⟨w0.heap.size, 0, none⟩))] rfl rfl (cell_new1 _ _ _ _ (by simp)) (one_one rfl) (by unfold maxLen; omega) (by omega) (by simp; omega) ?_)
    intro v' w' hown' hgrow _ hat
    obtain ⟨a', c', rfl, hc3, hf3, HS2, HF2⟩ := after_push HS1.out (by simp) hown' hgrow hat
    have HM := hid (mid_start hp (HF0.out.setSelf 2 _) (by simp [World.setCell]) (Hrow.out _ (Nat.le_refl _)) hbb0 HS2.out HF2.out)
    clear hown' hgrow hat HS1 HS2 HF2
    go_wp2_with fail
    refine (IH.out _ (by have := HM.out.le; omega) _ _ _ _ HM.out.st HM.out.leK (HM.out.bound (by simp) hbd)).mono ?_
    rintro e w5 ⟨x5, q5, a5, c5, l5, rfl, HR5⟩
    rcases HR5.out.isE with rfl | ⟨T5, b5, rfl⟩
    · have hl5 := HR5.out.nil rfl
      subst hl5
      obtain ⟨hM6, hc6⟩ := HM.out.back HR5.out
      have HM6 := hid hM6
      obtain ⟨f0, f1, f2, f3, ff⟩ := HR5.out.st.cell
      have hlen : (xs ++ [Value.iface 54 (.pointer (some ⟨w0.heap.size, 0, none⟩))] ++ [Value.nilIface]).length = xs.length + 1 + 1 := by simp
      have hn5 := HM6.out.node
      have hnc5 : (w5.setCell ⟨I.bb, 3, none⟩ (.slice a5 (xs.length + 1) c5)).cell? ⟨w0.heap.size, 1, none⟩ = some .nilIface := by simp [World.cell?, hn5]
      have hnf5 : (w5.setCell ⟨I.bb, 3, none⟩ (.slice a5 (xs.length + 1) c5)).frozen? ⟨w0.heap.size, 1, none⟩ = false := by simp [World.frozen?, hn5]
      rw [hlen] at f3
      have hc6' : (xs.length : Int) + 1 ≤ (c5 : Int) := by omega
      clear f0 f1 f2 hlen hM6 hn5
      have HP6 := hid (HM6.out.putn 1 .nilIface)
      go_wp2_with fail
      go_ret
      have hnode := HP6.out.node
      exact ⟨_, _, _, _, _, rfl, HP6.out.done (by simp) (isE_nd 54 _) (by intro h; cases h) (fun C hC _ => .inr (.inr (.inr (.inr (.inr (.inr (.inl ⟨_, _, rfl, hC, by simp [World.cell?, hnode], .inl ⟨rfl, rfl⟩⟩)))))))⟩
    · have HM5 := hid (HM.out.res HR5.out)
      have hn5 := HM5.out.node
      have hnc5 : w5.cell? ⟨w0.heap.size, 1, none⟩ = some .nilIface := by simp [World.cell?, hn5]
      have hnf5 : w5.frozen? ⟨w0.heap.size, 1, none⟩ = false := by simp [World.frozen?, hn5]
      have HP5 := hid (HM5.out.putn 1 (.iface T5 (.pointer (some ⟨b5, 0, none⟩))))
      clear hn5
      go_wp2_with fail
      go_ret
      have hnode := HP5.out.node
      exact ⟨_, _, _, _, _, rfl, HP5.out.done (by simp) (isE_nd 54 _) (by intro h; cases h) (fun C hC _ => .inr (.inr (.inr (.inr (.inr (.inr (.inl ⟨_, _, rfl, hC, by simp [World.cell?, hnode], .inr ⟨(by intro h; cases h), rfl⟩⟩)))))))⟩
end Go.Proofs.Qxb6613185a
