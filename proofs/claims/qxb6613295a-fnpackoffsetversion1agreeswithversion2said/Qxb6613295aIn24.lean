/-
  THE LAW's WALK where everything is in range, hash 0 (24 bytes an entry).
-/
import Derived.Test.Qxb6613295aLaw
namespace Go.Proofs.Qxb6613295a
open Go.RowKit
set_option linter.unusedVariables false

set_option maxRecDepth 100000 in
set_option maxHeartbeats 4000000 in
theorem law_in24 (i : Nat) (a1 : Option Addr) (n1 c1 : Nat) (z1 : List Int) (a2 : Option Addr) (n2 c2 : Nat) (z2 : List Int) (w : World) (hs : n1 + n2 ≤ 1048576) (hi : 24 * i + 4 ≤ n1)
    (C1 : Clones w a1 n1 c1 z1) (C2 : Clones w a2 n2 c2 z2) :
    Calls Try.prog 3 #[.int .u8 0, .slice a1 n1 c1, .slice a2 n2 c2, .int .i64 i] w fun e w' => e = .returned (.bool true) ∧ Below w.heap.size w w' := by
  have e : decide (n1 + n2 ≤ 1048576) = true := by simp; omega
  have B := bytes_any 0 i a1 n1 c1 a2 n2 c2 (by unfold maxLen; omega) (by unfold maxLen; omega) w
  rw [e] at B
  have HB := hid B
  have HC1 := hid C1
  have HC2 := hid C2
  clear B e C1 C2
  obtain ⟨i0, hinfo, hz0, hz1, hz2⟩ := info_parts Try.info5
  have Hi := hid hinfo
  have Hz0 := hid hz0
  have Hz1 := hid hz1
  have Hz2 := hid hz2
  clear hinfo hz0 hz1 hz2
  have k1 : ¬ (1048576 : Int) < (n1 : Int) := by omega
  have k2 : ¬ (1048576 : Int) < (n2 : Int) := by omega
  have p1 : ¬ (i : Int) < 0 := by omega
  have p2 : ¬ (n1 : Int) < (i : Int) := by omega
  have p3 : ¬ (n1 : Int) < 24 * (i : Int) + 4 := by omega
  go_enter Try.func3, Try.ntmps3
  go_wp2_with fail
  refine HB.out.mono ?_
  rintro e w' ⟨rfl, rfl⟩
  go_wp2_with fail
  refine (size_any 0 (by omega) (by omega) _).mono ?_
  rintro e w' ⟨rfl, rfl⟩
  go_wp2_with fail
  refine (HC1.out _ (Below.refl _ _)).mono ?_
  rintro e w1 ⟨a1', c1', rfl, hB1, hb1⟩
  obtain ⟨g1, rfl, hc1, hm1⟩ : ∃ g1, a1' = some ⟨g1, 0, none⟩ ∧ n1 ≤ c1' ∧ c1' ≤ maxLen := by
    obtain ⟨_, _, ⟨hv, h0⟩ | ⟨g, cap, hv, _, _, h1, h2, _⟩⟩ := hB1
    · omega
    · simp only [Value.slice.injEq] at hv
      obtain ⟨rfl, _, rfl⟩ := hv
      exact ⟨g, rfl, h1, h2⟩
  unfold maxLen at hm1
  have HB1 := hid hB1
  have Hb1 := hid hb1
  have hs1 := hb1.size
  clear hB1 hb1 HB
  go_wp2_with fail
  refine (HC2.out _ Hb1.out).mono ?_
  rintro e w2 ⟨a2', c2', rfl, hB2, hb2⟩
  have HB1' := hid (HB1.out.below hb2)
  have HB2 := hid hB2
  have Hb2 := hid (Hb1.out.trans (hb2.mono hs1))
  have hs2 : w1.heap.size ≤ w2.heap.size := hb2.size
  clear hB2 hb2 HB1 Hb1 HC1 HC2
  go_wp2_with (at_make; refine wpList_make_own _ rfl _ _ 22 rfl w2.heap.size 5 i0 (.int .u8 0) 1 Try.underlying22 Hi.out Hz0.out Hz1.out _ _ _ n1 rfl rfl rfl ?c1 ?c2 ?c3 ?_)
  case c1 => rw [Hz2.out]; omega
  case c2 => unfold maxLen; omega
  case c3 => omega
  intro w3 hown hgrow
  have Hown := hid hown
  have Hb3 := hid ((Below.refl _ w2).grown hgrow (Nat.le_refl _) (by intro g h; cases h))
  clear hown hgrow
  go_wp2_with fail
  go_loopw [10, 11] (fun v ei wr => ∃ e : Nat, ei = .int .i64 e ∧ v = .slice (some ⟨w2.heap.size, 0, none⟩) (4 * e) n1 ∧ 24 * e ≤ n1 + 20 ∧ Hid (wr.ownsRow w2.heap.size 5 1 (.slice (some ⟨w2.heap.size, 0, none⟩) (4 * e) n1) (4 * e) ((tab z1 24 e).map (Value.int .u8))) ∧ Hid (Below w2.heap.size w2 wr)) (fun _ ei _ => n1 + 24 - 24 * (intOf ei).toNat)
  case atStart => exact ⟨0, rfl, rfl, by omega, Hown.out, Hb3.out⟩
  case round =>
    obtain ⟨e, rfl, rfl, he, Howr, Hbr⟩ := hrel
    by_cases hlt : 24 * e + 4 ≤ n1
    · have hlt' : 24 * (e : Int) + 4 ≤ (n1 : Int) := by omega
      have hne : ¬ c1' = 24 * e := by omega
      have hlt2 : 24 * e + 4 ≤ c1' := by omega
      go_wp2_with (at_builtin; refine wpList_append_fits _ rfl (.tmp 75) (.tmp 84) 22 rfl w2.heap.size 5 i0 1 Try.underlying22 Hi.out Hz1.out w2.heap.size (4 * e) n1 _ rfl Howr.out ⟨g1, 24 * e, none⟩ _ _ (((z1.drop (24 * e)).take 4).map (Value.int .u8)) rfl ?d1 ?d2 (ints_oneCell _ _) ?d3 ?_)
      case d1 =>
        have := HB1'.out.1
        simp; omega
      case d2 =>
        intro j u hj
        obtain ⟨hz, hw, ⟨hv, _⟩ | ⟨g', cap, hv, _, hlt, _, _, hcell⟩⟩ := HB1'.out.below Hbr.out
        · cases hv
        simp only [Value.slice.injEq, Option.some.injEq, Addr.mk.injEq, and_true, true_and] at hv
        obtain ⟨rfl, rfl⟩ := hv
        obtain ⟨hj1, rfl⟩ := List.getElem?_eq_some_iff.1 hj
        have hj4 : j < 4 ∧ 24 * e + j < z1.length := by simp at hj1; omega
        have ea : (⟨g1, 24 * e, none⟩ : Addr).add j = ⟨g1, 24 * e + j, none⟩ := by simp [Addr.add]
        rw [ea, hcell (24 * e + j) (by omega)]
        simp [List.getD_eq_getElem?_getD, List.getElem?_eq_getElem hj4.2]
      case d3 => omega
      intro wn hownn hgrn
      have Hown' := hid (tab_owns hownn)
      have Hbn := hid (Hbr.out.grown hgrn Hbr.out.size (by intro k hk; cases hk; exact Nat.le_refl _))
      clear hownn hgrn
      go_wp2_with fail
      go_roundw
      case rel => exact ⟨e + 1, by go_num, rfl, by omega, Hown', Hbn⟩
      case measure => simp [intOf]; omega
    · have hlt' : ¬ 24 * (e : Int) + 4 ≤ (n1 : Int) := by omega
      have hie : i < e := by omega
      have hall : ∀ j, j < e → 24 * j + 4 ≤ n1 := fun j hj => by omega
      have HBo := hid (HB1'.out.below Hbr.out)
      have HBl := hid (HB2.out.below Hbr.out)
      have hzl := HB1'.out.1
      have HBt := hid (bytes_of_owns Howr.out (tab_length z1 24 e (by rw [hzl]; exact hall)) (tab_wf z1 24 HB1'.out.2.1 e))
      have HW := hid (tab_wordAt z1 24 e i (by rw [hzl]; exact hall) hie)
      have U := be_word g1 n1 c1' (24 * i) _ z1 wr HBo.out hi (by omega)
      rw [show ((24 * i : Nat) : Int) = 24 * (i : Int) from by omega] at U
      have HU := hid U
      obtain ⟨r0, r1⟩ := wordAt_wf (z := z1) (k := 24 * i) (by omega) HB1'.out.2.1
      have Hbw := hid (Hb2.out.trans (Hbr.out.mono (Nat.le_trans hs1 hs2)))
      clear U Howr hzl HB1' HB2 Hb2 hall Hown Hb3
      have hsw := Hbw.out.size
      have O1 : ∀ (pb : Nat) (wx : World), IsPack wx pb 1 0 (.slice (some ⟨g1, 0, none⟩) n1 c1') (.slice a2' n2 c2') → Bytes wx w'.heap.size (.slice (some ⟨g1, 0, none⟩) n1 c1') n1 z1 →
          Calls Try.prog 9 #[.pointer (some ⟨pb, 0, none⟩), .int .i64 i] wx fun e w' => e = .returned (.int .i64 (wordAt z1 (24 * i))) ∧ Below wx.heap.size wx w' := fun pb wx hp hb =>
        off1 pb i 0 (by omega) (by omega) n1 _ _ z1 _ wx hp hb (by omega) hi
      have O2 : ∀ (pb : Nat) (wx : World), IsPack wx pb 2 0 (.slice (some ⟨w2.heap.size, 0, none⟩) (4 * e) n1) (.slice a2' n2 c2') → Bytes wx w2.heap.size (.slice (some ⟨w2.heap.size, 0, none⟩) (4 * e) n1) (4 * e) (tab z1 24 e) → Bytes wx w1.heap.size (.slice a2' n2 c2') n2 z2 →
          Calls Try.prog 9 #[.pointer (some ⟨pb, 0, none⟩), .int .i64 i] wx fun e w' => ∃ r, e = .returned (.int .i64 r) ∧ Hid ((wordAt z1 (24 * i) < 2147483648 → r = wordAt z1 (24 * i)) ∧ (2147483648 ≤ wordAt z1 (24 * i) → r = -1 ∨ (0 ≤ r ∧ r ≤ 4611686018427387904))) ∧ Below wx.heap.size wx w' := fun pb wx hp hb hbl => by
        rw [← HW.out]
        exact off2 pb i 0 (4 * e) _ _ n2 (tab z1 24 e) z2 0 wx hp (hb.weak (Nat.zero_le _)) (by omega) (hbl.weak (Nat.zero_le _)) (by omega) (by omega)
      have HO1 := hid O1
      have HO2 := hid O2
      clear O1 O2 HW
      generalize wordAt z1 (24 * i) = r at HU HO1 HO2 r0 r1
      go_wp2_with fail
      refine HU.out.mono ?_
      rintro e4 w4 ⟨rfl, hb4⟩
      have HBo4 := hid (HBo.out.below hb4)
      have HBl4 := hid (HBl.out.below hb4)
      have HBt4 := hid (HBt.out.below hb4)
      have Hbw4 := hid (Hbw.out.trans (hb4.mono hsw))
      clear HBo HBl HBt Hbw HU hb4
      go_wp2_with fail
      refine (pack_any 1 0 _ _ _ _ _ _ _).mono ?_
      rintro e5 w5 ⟨rfl, hp5, hb5⟩
      have hsw5 := Hbw4.out.size
      have HBo5 := hid (HBo4.out.below hb5)
      have HBl5 := hid (HBl4.out.below hb5)
      have HBt5 := hid (HBt4.out.below hb5)
      have Hbw5 := hid (Hbw4.out.trans (hb5.mono hsw5))
      have Hp5 := hid hp5
      clear HBo4 HBl4 HBt4 Hbw4 hb5 hp5
      go_wp2_with fail
      refine (pack_any 2 0 _ _ _ _ _ _ _).mono ?_
      rintro e6 w6 ⟨rfl, hp6, hb6⟩
      have hsw6 := Hbw5.out.size
      have HBo6 := hid (HBo5.out.below hb6)
      have HBl6 := hid (HBl5.out.below hb6)
      have HBt6 := hid (HBt5.out.below hb6)
      have Hbw6 := hid (Hbw5.out.trans (hb6.mono hsw6))
      have Hp56 := hid (Hp5.out.below hb6)
      have Hp6 := hid hp6
      clear HBo5 HBl5 HBt5 Hbw5 hb6 hp6 Hp5
      go_wp2_with fail
      refine (HO1.out _ _ Hp56.out HBo6.out).mono ?_
      rintro e7 w7 ⟨rfl, hb7⟩
      have hsw7 := Hbw6.out.size
      have HBl7 := hid (HBl6.out.below hb7)
      have HBt7 := hid (HBt6.out.below hb7)
      have Hbw7 := hid (Hbw6.out.trans (hb7.mono hsw7))
      have Hp7 := hid (Hp6.out.below hb7)
      clear HBo6 HBl6 HBt6 Hbw6 hb7 Hp6 Hp56
      go_wp2_with fail
      refine (HO2.out _ _ Hp7.out HBt7.out HBl7.out).mono ?_
      rintro e8 w8 ⟨r2, rfl, HR, hb8⟩
      have hsw8 := Hbw7.out.size
      have Hbw8 := hid (Hbw7.out.trans (hb8.mono hsw8))
      clear HBl7 HBt7 Hbw7 hb8 Hp7
      by_cases hlow : r < 2147483648
      · obtain rfl := HR.out.1 hlow
        go_wp2_with fail
        go_ret
        exact ⟨rfl, Hbw8.out⟩
      · rcases HR.out.2 (by omega) with h1 | ⟨h1, h2⟩
        · have h1' : (r2 == -1) = true := by simp [h1]
          go_wp2_with fail
          go_ret
          exact ⟨rfl, Hbw8.out⟩
        · have h1' : (r2 == -1) = false := by simp; omega
          go_wp2_with fail
          go_ret
          exact ⟨rfl, Hbw8.out⟩
end Go.Proofs.Qxb6613295a
