/-
  build: Between.
-/
import Derived.Test.Qxb6613185aMid
namespace Go.Proofs.Qxb6613185a
open Go.RowKit
set_option linter.unusedVariables false

set_option maxRecDepth 100000 in
set_option maxHeartbeats 8000000 in
theorem build_between (I : In) (p : Nat) (hp : p < I.K) (hkind : I.zk.getD p 0 = 2) (ih : ∀ q, p < q → Builds I q) : Builds I p := by
  intro w a c xs hst hpK hbd
  obtain ⟨h0, h1, h2, h3, hf⟩ := hst.cell
  have hK4 := hst.ok.K4
  obtain ⟨i0, hinfo, hz0, hz1, hz2⟩ := info_parts Try.info25
  have Hi := hid hinfo
  have Hz0 := hid hz0
  have Hz1 := hid hz1
  have Hz2 := hid hz2
  have HS := hid hst
  have IH := hid ih
  have hge : ¬ (I.K : Int) ≤ (p : Int) := by omega
  have hbb := hst.lt
  clear hinfo hz0 hz1 hz2 hst h1 ih
  go_enter Try.func10, Try.ntmps10
  go_wp2
  go_quiet (fail)
  obtain ⟨w0, hw0⟩ : ∃ w0, w.drewN nq = w0 := ⟨_, rfl⟩
  rw [hw0]
  have HS0 := hid (HS.out.drewN nq)
  have HF0 := hid ((Fr.refl I.bb w a).drewN nq)
  have hsz : w0.heap.size = w.heap.size := by rw [← hw0]; rfl
  rw [hw0] at HS0 HF0
  have Hsz := hid hsz
  have hbb0 : I.bb < w0.heap.size := by omega
  obtain ⟨g0, g1, g2, g3, gf⟩ := HS0.out.cell
  obtain ⟨kb, ko, hka, hkb, hkc, hkz0, hkz1⟩ := HS0.out.ok.kinds p hp
  rw [hka] at g0
  rw [hkind] at hkc
  clear hkind
  have hkc' : (w0.setCell ⟨I.bb, 2, none⟩ (.int .i64 ((p : Int) + 1))).cell? ⟨kb, ko + p, none⟩ = some (.int .u8 2) := (World.cell?_of_block (w := w0) (Below.heap_setCell _ _ _ _ (by show kb ≠ I.bb; omega))).trans hkc
  have hpK' : (p : Int) < (I.K : Int) := by omega
  have Hka := hid hka
  have hrow : ∀ k, w0.heap.size ≤ k → some k ≠ a.map (·.block) := fun k hk e => by have := HS0.out.rowlt k e; omega
  have Hrow := hid hrow
  clear h0 h2 h3 hf hw0 hsz hkc hka hrow
  by_cases hA : p < I.A
  · obtain ⟨ab, ao, haa, hab, hac, hm0, hm1⟩ := HS0.out.ok.arity p hA
    rw [haa] at g1
    have hac' : (w0.setCell ⟨I.bb, 2, none⟩ (.int .i64 ((p : Int) + 1))).cell? ⟨ab, ao + p, none⟩ = some (.int .u8 (I.za.getD p 0)) := (World.cell?_of_block (w := w0) (Below.heap_setCell _ _ _ _ (by show ab ≠ I.bb; omega))).trans hac
    have hA' : (p : Int) < (I.A : Int) := by omega
    generalize I.za.getD p 0 = m at hac' hm0 hm1 hac
    clear hac haa
    have HS1 := hid ((HS0.out.next).alloc (.cells #[.nilIface, .nilIface, .nilIface, .bool false] 47))
    go_wp2_with (at_builtin; refine wpList_append_own_at _ rfl (.tmp 130) (.tmp 133) 26 rfl (I.bb + 1) 25 i0 .nilIface 1 16 Try.underlying26 Hi.out Hz0.out Hz1.out Hz2.out rfl (by decide) _ _ _ rfl (HS1.out.row.alloc _) ⟨_, 0, none⟩ 1 1 [.iface 45 (.pointer (some ⟨w0.heap.size, 0, none⟩))] rfl rfl (cell_new1 _ _ _ _ (by simp)) (one_one rfl) (by unfold maxLen; omega) (by omega) (by simp; omega) ?_)
    intro v' w' hown' hgrow _ hat
    obtain ⟨a', c', rfl, hc3, hf3, HS2, HF2⟩ := after_push HS1.out (by simp) hown' hgrow hat
    have HM := hid (mid_start hp (HF0.out.setSelf 2 _) (by simp [World.setCell]) (Hrow.out _ (Nat.le_refl _)) hbb0 HS2.out HF2.out)
    clear hown' hgrow hat HS1 HS2 HF2
    go_wp2_with fail
    refine (IH.out _ (by have := HM.out.le; omega) _ _ _ _ HM.out.st HM.out.leK (HM.out.bound (by simp) hbd)).mono ?_
    rintro e w5 ⟨x5, q5, a5, c5, l5, rfl, HR5⟩
    have HM5 := hid (HM.out.res HR5.out)
    have hn5 := HM5.out.node
    have hnc5 : w5.cell? ⟨w0.heap.size, 0, none⟩ = some .nilIface := by simp [World.cell?, hn5]
    have hnf5 : w5.frozen? ⟨w0.heap.size, 0, none⟩ = false := by simp [World.frozen?, hn5]
    have HP5 := hid (fun u : Value => HM5.out.putn 0 u)
    clear hn5
    rcases HR5.out.isE with rfl | ⟨T5, b5, rfl⟩
    all_goals
      go_wp2_with fail
      refine (IH.out _ (by have := HM5.out.le; omega) _ _ _ _ (HP5.out _).st HM5.out.leK (HM5.out.bound (by simp) hbd)).mono ?_
      rintro e w6 ⟨x6, q6, a6, c6, l6, rfl, HR6⟩
      have HM6 := hid ((HP5.out _).res HR6.out)
      have hn6 := HM6.out.node
      have hnc6 : w6.cell? ⟨w0.heap.size, 1, none⟩ = some .nilIface := by simp [World.cell?, hn6]
      have hnf6 : w6.frozen? ⟨w0.heap.size, 1, none⟩ = false := by simp [World.frozen?, hn6]
      have HP6 := hid (fun u : Value => HM6.out.putn 1 u)
      clear hn6
      rcases HR6.out.isE with rfl | ⟨T6, b6, rfl⟩
      all_goals
        go_wp2_with fail
        refine (IH.out _ (by have := HM6.out.le; omega) _ _ _ _ (HP6.out _).st HM6.out.leK (HM6.out.bound (by simp) hbd)).mono ?_
        rintro e w7 ⟨x7, q7, a7, c7, l7, rfl, HR7⟩
        have HM7 := hid ((HP6.out _).res HR7.out)
        have hn7 := HM7.out.node
        have hnc7 : w7.cell? ⟨w0.heap.size, 2, none⟩ = some .nilIface := by simp [World.cell?, hn7]
        have hnf7 : w7.frozen? ⟨w0.heap.size, 2, none⟩ = false := by simp [World.frozen?, hn7]
        have HP7 := hid (fun u : Value => HM7.out.putn 2 u)
        clear hn7
        rcases HR7.out.isE with rfl | ⟨T7, b7, rfl⟩
        all_goals
          go_wp2_with fail
          go_ret
          have hnode := fun u => (HP7.out u).node
          exact ⟨_, _, _, _, _, rfl, (HP7.out _).done (by simp) (isE_nd 45 _) (by intro h; cases h) (fun C hC _ => .inr (.inr (.inr (.inl ⟨_, _, _, _, rfl, hC, by simp [World.cell?, hnode], by simp [World.cell?, hnode], by simp [World.cell?, hnode], rfl⟩))))⟩
  · have hA' : ¬ (p : Int) < (I.A : Int) := by omega
    have HS1 := hid ((HS0.out.next).alloc (.cells #[.nilIface, .nilIface, .nilIface, .bool false] 47))
    go_wp2_with (at_builtin; refine wpList_append_own_at _ rfl (.tmp 130) (.tmp 133) 26 rfl (I.bb + 1) 25 i0 .nilIface 1 16 Try.underlying26 Hi.out Hz0.out Hz1.out Hz2.out rfl (by decide) _ _ _ rfl (HS1.out.row.alloc _) ⟨_, 0, none⟩ 1 1 [.iface 45 (.pointer (some ⟨w0.heap.size, 0, none⟩))] rfl rfl (cell_new1 _ _ _ _ (by simp)) (one_one rfl) (by unfold maxLen; omega) (by omega) (by simp; omega) ?_)
    intro v' w' hown' hgrow _ hat
    obtain ⟨a', c', rfl, hc3, hf3, HS2, HF2⟩ := after_push HS1.out (by simp) hown' hgrow hat
    have HM := hid (mid_start hp (HF0.out.setSelf 2 _) (by simp [World.setCell]) (Hrow.out _ (Nat.le_refl _)) hbb0 HS2.out HF2.out)
    clear hown' hgrow hat HS1 HS2 HF2
    go_wp2_with fail
    refine (IH.out _ (by have := HM.out.le; omega) _ _ _ _ HM.out.st HM.out.leK (HM.out.bound (by simp) hbd)).mono ?_
    rintro e w5 ⟨x5, q5, a5, c5, l5, rfl, HR5⟩
    have HM5 := hid (HM.out.res HR5.out)
    have hn5 := HM5.out.node
    have hnc5 : w5.cell? ⟨w0.heap.size, 0, none⟩ = some .nilIface := by simp [World.cell?, hn5]
    have hnf5 : w5.frozen? ⟨w0.heap.size, 0, none⟩ = false := by simp [World.frozen?, hn5]
    have HP5 := hid (fun u : Value => HM5.out.putn 0 u)
    clear hn5
    rcases HR5.out.isE with rfl | ⟨T5, b5, rfl⟩
    all_goals
      go_wp2_with fail
      refine (IH.out _ (by have := HM5.out.le; omega) _ _ _ _ (HP5.out _).st HM5.out.leK (HM5.out.bound (by simp) hbd)).mono ?_
      rintro e w6 ⟨x6, q6, a6, c6, l6, rfl, HR6⟩
      have HM6 := hid ((HP5.out _).res HR6.out)
      have hn6 := HM6.out.node
      have hnc6 : w6.cell? ⟨w0.heap.size, 1, none⟩ = some .nilIface := by simp [World.cell?, hn6]
      have hnf6 : w6.frozen? ⟨w0.heap.size, 1, none⟩ = false := by simp [World.frozen?, hn6]
      have HP6 := hid (fun u : Value => HM6.out.putn 1 u)
      clear hn6
      rcases HR6.out.isE with rfl | ⟨T6, b6, rfl⟩
      all_goals
        go_wp2_with fail
        refine (IH.out _ (by have := HM6.out.le; omega) _ _ _ _ (HP6.out _).st HM6.out.leK (HM6.out.bound (by simp) hbd)).mono ?_
        rintro e w7 ⟨x7, q7, a7, c7, l7, rfl, HR7⟩
        have HM7 := hid ((HP6.out _).res HR7.out)
        have hn7 := HM7.out.node
        have hnc7 : w7.cell? ⟨w0.heap.size, 2, none⟩ = some .nilIface := by simp [World.cell?, hn7]
        have hnf7 : w7.frozen? ⟨w0.heap.size, 2, none⟩ = false := by simp [World.frozen?, hn7]
        have HP7 := hid (fun u : Value => HM7.out.putn 2 u)
        clear hn7
        rcases HR7.out.isE with rfl | ⟨T7, b7, rfl⟩
        all_goals
          go_wp2_with fail
          go_ret
          have hnode := fun u => (HP7.out u).node
          exact ⟨_, _, _, _, _, rfl, (HP7.out _).done (by simp) (isE_nd 45 _) (by intro h; cases h) (fun C hC _ => .inr (.inr (.inr (.inl ⟨_, _, _, _, rfl, hC, by simp [World.cell?, hnode], by simp [World.cell?, hnode], by simp [World.cell?, hnode], rfl⟩))))⟩
end Go.Proofs.Qxb6613185a
