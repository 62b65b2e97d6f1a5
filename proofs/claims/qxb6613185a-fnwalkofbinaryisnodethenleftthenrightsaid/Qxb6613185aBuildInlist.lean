/-
  build: InList.
-/
import Derived.Test.Qxb6613185aMid
namespace Go.Proofs.Qxb6613185a
open Go.RowKit
set_option linter.unusedVariables false

theorem head_drop {ks : List Value} {u : Value} (h : ks.head? = some u) : ks = u :: ks.drop 1 := by
  cases ks with
  | nil => cases h
  | cons x xs => cases h; rfl

set_option maxRecDepth 100000 in
set_option maxHeartbeats 8000000 in
theorem build_inlist (I : In) (p : Nat) (hp : p < I.K) (hkind : I.zk.getD p 0 = 3) (ih : ∀ q, p < q → Builds I q) : Builds I p := by
  intro w a c xs hst hpK hbd
  obtain ⟨h0, h1, h2, h3, hf⟩ := hst.cell
  have hK4 := hst.ok.K4
  obtain ⟨i0, hinfo, hz0, hz1, hz2⟩ := info_parts Try.info25
  have Hi := hid hinfo
  have Hz0 := hid hz0
  have Hz1 := hid hz1
  have Hz2 := hid hz2
  have HS := hid hst
  have IH := hid ih
  have hge : ¬ (I.K : Int) ≤ (p : Int) := by omega
  have hbb := hst.lt
  clear hinfo hz0 hz1 hz2 hst h1 ih
  go_enter Try.func10, Try.ntmps10
  go_wp2
  go_quiet (fail)
  obtain ⟨w0, hw0⟩ : ∃ w0, w.drewN nq = w0 := ⟨_, rfl⟩
  rw [hw0]
  have HS0 := hid (HS.out.drewN nq)
  have HF0 := hid ((Fr.refl I.bb w a).drewN nq)
  have hsz : w0.heap.size = w.heap.size := by rw [← hw0]; rfl
  rw [hw0] at HS0 HF0
  have Hsz := hid hsz
  have hbb0 : I.bb < w0.heap.size := by omega
  obtain ⟨g0, g1, g2, g3, gf⟩ := HS0.out.cell
  obtain ⟨kb, ko, hka, hkb, hkc, hkz0, hkz1⟩ := HS0.out.ok.kinds p hp
  rw [hka] at g0
  rw [hkind] at hkc
  clear hkind
  have hkc' : (w0.setCell ⟨I.bb, 2, none⟩ (.int .i64 ((p : Int) + 1))).cell? ⟨kb, ko + p, none⟩ = some (.int .u8 3) := (World.cell?_of_block (w := w0) (Below.heap_setCell _ _ _ _ (by show kb ≠ I.bb; omega))).trans hkc
  have hpK' : (p : Int) < (I.K : Int) := by omega
  have Hka := hid hka
  have hrow : ∀ k, w0.heap.size ≤ k → some k ≠ a.map (·.block) := fun k hk e => by have := HS0.out.rowlt k e; omega
  have Hrow := hid hrow
  clear h0 h2 h3 hf hw0 hsz hkc hka hrow
  by_cases hA : p < I.A
  · obtain ⟨ab, ao, haa, hab, hac, hm0, hm1⟩ := HS0.out.ok.arity p hA
    rw [haa] at g1
    have hac' : (w0.setCell ⟨I.bb, 2, none⟩ (.int .i64 ((p : Int) + 1))).cell? ⟨ab, ao + p, none⟩ = some (.int .u8 (I.za.getD p 0)) := (World.cell?_of_block (w := w0) (Below.heap_setCell _ _ _ _ (by show ab ≠ I.bb; omega))).trans hac
    have hA' : (p : Int) < (I.A : Int) := by omega
    generalize I.za.getD p 0 = mi at hac' hm0 hm1 hac
    obtain ⟨m, rfl⟩ := Int.eq_ofNat_of_zero_le hm0
    clear hac haa
    have HS1 := hid ((HS0.out.next).alloc (.cells #[.nilIface, .slice none 0 0, .bool false] 50))
    go_wp2_with (at_builtin; refine wpList_append_own_at _ rfl (.tmp 162) (.tmp 165) 26 rfl (I.bb + 1) 25 i0 .nilIface 1 16 Try.underlying26 Hi.out Hz0.out Hz1.out Hz2.out rfl (by decide) _ _ _ rfl (HS1.out.row.alloc _) ⟨_, 0, none⟩ 1 1 [.iface 48 (.pointer (some ⟨w0.heap.size, 0, none⟩))] rfl rfl (cell_new1 _ _ _ _ (by simp)) (one_one rfl) (by unfold maxLen; omega) (by omega) (by simp; omega) ?_)
    intro v' w' hown' hgrow _ hat
    obtain ⟨a', c', rfl, hc3, hf3, HS2, HF2⟩ := after_push HS1.out (by simp) hown' hgrow hat
    have HM := hid (mid_start hp (HF0.out.setSelf 2 _) (by simp [World.setCell]) (Hrow.out _ (Nat.le_refl _)) hbb0 HS2.out HF2.out)
    clear hown' hgrow hat HS1 HS2 HF2
    go_wp2_with fail
    refine (IH.out _ (by have := HM.out.le; omega) _ _ _ _ HM.out.st HM.out.leK (HM.out.bound (by simp) hbd)).mono ?_
    rintro e w4 ⟨x5, q5, a5, c5, l5, rfl, HR5⟩
    have HM5 := hid (HM.out.res HR5.out)
    have hn5 := HM5.out.node
    have hnc5 : w4.cell? ⟨w0.heap.size, 0, none⟩ = some .nilIface := by simp [World.cell?, hn5]
    have hnf5 : w4.frozen? ⟨w0.heap.size, 0, none⟩ = false := by simp [World.frozen?, hn5]
    have HP5 : Hid (∀ u : Value, Mid I w p a xs (.iface 48 (.pointer (some ⟨w0.heap.size, 0, none⟩))) w0.heap.size w0.heap.size (.cells #[u, .slice none 0 0, .bool false] 50) (.cells #[u, .slice none 0 0, .bool false] 50) (w4.setCell ⟨w0.heap.size, 0, none⟩ u) q5 a5 c5 ([] ++ l5) ([] ++ [x5])) := hid (fun u => by simpa using HM5.out.putn 0 u)
    clear hn5 HM
    by_cases hmz : m = 0
    · subst hmz
      rcases HR5.out.isE with rfl | ⟨T5, b5, rfl⟩
      all_goals
        go_wp2_with fail
        go_ret
        have hnode := fun u => (HP5.out u).node
        exact ⟨_, _, _, _, _, rfl, (HP5.out _).done (by simp) (isE_nd 48 _) (by intro h; cases h) (fun C hC _ => .inr (.inr (.inr (.inr (.inl ⟨_, _, _, _, rfl, hC, by simp [World.cell?, hnode], by simp [World.cell?, hnode], .inl ⟨rfl, rfl⟩, rfl⟩)))))⟩
    · have hmpos : (0 : Int) < (m : Int) := by omega
      rcases HR5.out.isE with rfl | ⟨T5, b5, rfl⟩
      all_goals
        go_wp2_with (at_make; refine wpList_make_full _ rfl _ _ 26 rfl (I.bb + 1) 25 i0 .nilIface 1 Try.underlying26 Hi.out Hz0.out Hz1.out _ _ _ _ m rfl rfl rfl rfl (by rw [Hz2.out]; omega) (by unfold maxLen; omega) (by have := (HP5.out .nilIface).st.lt; simp [World.setCell] at this ⊢; omega) ?_)
        intro w5 hown hgrow
        obtain ⟨arr, hl, hsz⟩ : ∃ arr : Array Value, w5.heap[w4.heap.size]? = some (.cells arr 25 (0, 0)) ∧ arr.size = m := by
          obtain ⟨_, ⟨h, _⟩ | ⟨g, cap, cur, hv, hbg, hh, hncap, hmax, hs, _⟩⟩ := hown
          · cases h
          · simp only [Value.slice.injEq, Option.some.injEq, Addr.mk.injEq, true_and, and_true] at hv
            obtain ⟨rfl, rfl⟩ := hv
            exact ⟨cur, hh, by simpa using hs⟩
        have HM6 := hid ((HP5.out _).make hgrow (by simp [World.setCell]) hl)
        have hnlb : w0.heap.size < w4.heap.size := HM5.out.nlt
        have Hsz5 := hid hsz
        clear hown hgrow hl hsz HP5
        generalize w4.heap.size = lb at HM6 hnlb ⊢
        go_wp2_with fail
        go_loopw [11] (fun jv wr => ∃ (u : Value) (j q : Nat) (a4 : Option Addr) (c4 : Nat) (ls ks : List Value) (arr : Array Value), jv = .int .i64 j ∧ j ≤ m ∧ Hid (Mid I w p a xs (.iface 48 (.pointer (some ⟨w0.heap.size, 0, none⟩))) w0.heap.size lb (.cells #[u, .slice none 0 0, .bool false] 50) (.cells arr 25 (0, 0)) wr q a4 c4 ls ks) ∧ Hid (Laid arr m 1 j ks) ∧ Hid (ks.head? = some u)) (fun jv _ => m - (intOf jv).toNat)
        case atStart => exact ⟨_, 0, _, _, _, _, _, arr, rfl, by omega, HM6.out, ⟨by simp, Hsz5.out, fun i hi => by omega⟩, rfl⟩
        case round =>
          clear HM6 Hsz5
          obtain ⟨u, j, q, a4, c4, ls, ks, arr, rfl, hj, HMj, HLj, HU⟩ := hrel
          by_cases hlt : j < m
          · have hlt' : (j : Int) < (m : Int) := by omega
            go_wp2_with fail
            refine (IH.out _ (by have := HMj.out.le; omega) _ _ _ _ HMj.out.st HMj.out.leK (HMj.out.bound (by have := HLj.out.1; omega) hbd)).mono ?_
            rintro e w6 ⟨x6, q6, a6, c6, l6, rfl, HR6⟩
            have HM6 := hid (HMj.out.res HR6.out)
            have hn6 := HM6.out.list
            obtain ⟨u0, hu0⟩ : ∃ u0, arr[j]? = some u0 := ⟨_, Array.getElem?_eq_getElem (by rw [HLj.out.2.1]; exact hlt)⟩
            have hnc6 : w6.cell? ⟨lb, j, none⟩ = some u0 := by simp [World.cell?, hn6, hu0]
            have hnf6 : w6.frozen? ⟨lb, j, none⟩ = false := by simp [World.frozen?, hn6]
            have HP6 := hid (fun u : Value => HM6.out.putl hnlb j u)
            have HL6 := hid (fun u : Value => HLj.out.step hlt u)
            have HU6 : Hid (∀ v : Value, (ks ++ [v]).head? = some u) := hid (fun v => by rw [List.head?_append, HU.out]; rfl)
            clear hn6 hu0
            rcases HR6.out.isE with rfl | ⟨T6, b6, rfl⟩
            all_goals
              go_wp2_with fail
              go_roundw
              case rel => exact ⟨u, j + 1, _, _, _, _, _, _, by go_num, by omega, HP6.out _, HL6.out _, HU6.out _⟩
              case measure => simp [intOf]; omega
          · obtain rfl : j = m := by omega
            have hn6 := HMj.out.node
            have hnc6 : wr.cell? ⟨w0.heap.size, 1, none⟩ = some (.slice none 0 0) := by simp [World.cell?, hn6]
            have hnf6 : wr.frozen? ⟨w0.heap.size, 1, none⟩ = false := by simp [World.frozen?, hn6]
            have HP6 := hid (HMj.out.putm hnlb 1 (.slice (some ⟨lb, 0, none⟩) j j))
            clear hn6
            go_wp2_with fail
            go_ret
            have hnode := HP6.out.node
            have hlist := HP6.out.list
            exact ⟨_, _, _, _, _, rfl, HP6.out.done (by have := HLj.out.1; omega) (isE_nd 48 _) (by intro h; cases h) (fun C hC hC2 => .inr (.inr (.inr (.inr (.inl ⟨_, u, _, _, rfl, hC, by simp [World.cell?, hnode], by simp [World.cell?, hnode], HLj.out.row (by unfold maxLen; omega) hlist hC2, head_drop HU.out⟩)))))⟩
  · have hA' : ¬ (p : Int) < (I.A : Int) := by omega
    have HS1 := hid ((HS0.out.next).alloc (.cells #[.nilIface, .slice none 0 0, .bool false] 50))
    go_wp2_with (at_builtin; refine wpList_append_own_at _ rfl (.tmp 162) (.tmp 165) 26 rfl (I.bb + 1) 25 i0 .nilIface 1 16 Try.underlying26 Hi.out Hz0.out Hz1.out Hz2.out rfl (by decide) _ _ _ rfl (HS1.out.row.alloc _) ⟨_, 0, none⟩ 1 1 [.iface 48 (.pointer (some ⟨w0.heap.size, 0, none⟩))] rfl rfl (cell_new1 _ _ _ _ (by simp)) (one_one rfl) (by unfold maxLen; omega) (by omega) (by simp; omega) ?_)
    intro v' w' hown' hgrow _ hat
    obtain ⟨a', c', rfl, hc3, hf3, HS2, HF2⟩ := after_push HS1.out (by simp) hown' hgrow hat
    have HM := hid (mid_start hp (HF0.out.setSelf 2 _) (by simp [World.setCell]) (Hrow.out _ (Nat.le_refl _)) hbb0 HS2.out HF2.out)
    clear hown' hgrow hat HS1 HS2 HF2
    go_wp2_with fail
    refine (IH.out _ (by have := HM.out.le; omega) _ _ _ _ HM.out.st HM.out.leK (HM.out.bound (by simp) hbd)).mono ?_
    rintro e w4 ⟨x5, q5, a5, c5, l5, rfl, HR5⟩
    have HM5 := hid (HM.out.res HR5.out)
    have hn5 := HM5.out.node
    have hnc5 : w4.cell? ⟨w0.heap.size, 0, none⟩ = some .nilIface := by simp [World.cell?, hn5]
    have hnf5 : w4.frozen? ⟨w0.heap.size, 0, none⟩ = false := by simp [World.frozen?, hn5]
    have HP5 : Hid (∀ u : Value, Mid I w p a xs (.iface 48 (.pointer (some ⟨w0.heap.size, 0, none⟩))) w0.heap.size w0.heap.size (.cells #[u, .slice none 0 0, .bool false] 50) (.cells #[u, .slice none 0 0, .bool false] 50) (w4.setCell ⟨w0.heap.size, 0, none⟩ u) q5 a5 c5 ([] ++ l5) ([] ++ [x5])) := hid (fun u => by simpa using HM5.out.putn 0 u)
    clear hn5 HM
    rcases HR5.out.isE with rfl | ⟨T5, b5, rfl⟩
    all_goals
      go_wp2_with fail
      go_ret
      have hnode := fun u => (HP5.out u).node
      exact ⟨_, _, _, _, _, rfl, (HP5.out _).done (by simp) (isE_nd 48 _) (by intro h; cases h) (fun C hC _ => .inr (.inr (.inr (.inr (.inl ⟨_, _, _, _, rfl, hC, by simp [World.cell?, hnode], by simp [World.cell?, hnode], .inl ⟨rfl, rfl⟩, rfl⟩)))))⟩
end Go.Proofs.Qxb6613185a
