/-
  ZZquoteTrips, tripChoices, and the law's walk.
-/
import Derived.Test.Qxb6612870aDoorQuote
namespace Go.Proofs.Qxb6612870aDoor
open Go.RowKit Go.Maps Go.Sort Go.Shelf
set_option linter.unusedVariables false

theorem Tryd.info26 : (Tryd.prog.info? 26).map (fun i => (i.zero, i.size, i.bytes)) = some (some (.int .i64 0), 1, 8) := by kernel_rfl

theorem own_int {wn : World} {B k : Nat} {ts : List Int} {x : Int} (hx : x = ts.getD k 0) (hk : k < ts.length)
    (h : wn.ownsRow B 26 1 (.slice (some ⟨B, 0, none⟩) (k + 1) 3) (k + 1) ((ts.map (Value.int .i64)).take k ++ [.int .i64 x])) :
    wn.ownsRow B 26 1 (.slice (some ⟨B, 0, none⟩) (k + 1) 3) (k + 1) ((ts.take (k + 1)).map (Value.int .i64)) := by
  have e : (ts.take (k + 1)).map (Value.int .i64) = (ts.map (Value.int .i64)).take k ++ [.int .i64 x] := by
    rw [hx, List.map_take, List.take_succ_eq_append_getElem (by simpa using hk)]
    simp [List.getD_eq_getElem?_getD, List.getElem?_eq_getElem hk]
  rw [e]
  exact h

set_option maxRecDepth 100000 in
set_option maxHeartbeats 2000000 in
/-- ZZquoteTrips. -/
theorem zz_any (bm g c : Nat) (ts : List Int) (hts : ts.Perm [1, 2, 3]) (w : World) (h : Names w bm) (hg : g < w.heap.size)
    (hc : ∀ j, j < 3 → w.cell? ⟨g, j, none⟩ = some (.int .i64 (ts.getD j 0))) :
    Calls Tryd.prog 6 #[.slice (some ⟨g, 0, none⟩) 3 c] w fun e w' => e = .returned (.string ⟨want.toArray⟩) ∧ Below w.heap.size w w' := by
  have hlen : ts.length = 3 := by rw [hts.length_eq]; rfl
  obtain ⟨i0, hinfo, hz0, hz1, hz2⟩ := info_parts Tryd.info26
  have Hi := hid hinfo
  have Hz0 := hid hz0
  have Hz1 := hid hz1
  have Hz2 := hid hz2
  have HN := hid h
  have HC := hid hc
  have HP := hid hts
  have HL := hid hlen
  clear hinfo hz0 hz1 hz2 h hc hts hlen
  go_enter Tryd.func6, Tryd.ntmps6
  go_wp2_with (at_make; refine wpList_make_own _ rfl _ _ 29 rfl w.heap.size 26 i0 (.int .i64 0) 1 Tryd.underlying29 Hi.out Hz0.out Hz1.out _ _ _ 3 rfl rfl rfl ?c1 ?c2 ?c3 ?_)
  case c1 => rw [Hz2.out]; omega
  case c2 => unfold maxLen; omega
  case c3 => omega
  intro w1 hown hgrow
  have Hown := hid hown
  have Hb1 := hid ((Below.refl _ w).grown hgrow (Nat.le_refl _) (by intro g h; cases h))
  clear hown hgrow
  go_wp2_with fail
  go_loopw [3, 11] (fun v ei wr => ∃ k : Nat, k ≤ 3 ∧ ei = .int .i64 k ∧ v = .slice (some ⟨w.heap.size, 0, none⟩) k 3 ∧ Hid (wr.ownsRow w.heap.size 26 1 (.slice (some ⟨w.heap.size, 0, none⟩) k 3) k ((ts.take k).map (Value.int .i64))) ∧ Hid (Below w.heap.size w wr)) (fun _ ei _ => 3 - (intOf ei).toNat)
  case atStart => exact ⟨0, by omega, rfl, rfl, Hown.out, Hb1.out⟩
  case round =>
    obtain ⟨k, hk, rfl, rfl, Howr, Hbr⟩ := hrel
    by_cases hlt : k < 3
    · have hck : wr.cell? ⟨g, k, none⟩ = some (.int .i64 (ts.getD k 0)) := (Hbr.out.cell hg).trans (HC.out k hlt)
      obtain ⟨x, hx⟩ : ∃ x, x = ts.getD k 0 := ⟨_, rfl⟩
      rw [← hx] at hck
      have Hx := hid hx
      clear hx
      go_wp2_with (at_builtin; refine wpList_append_fits _ rfl (.tmp 15) (.tmp 17) 29 rfl w.heap.size 26 i0 1 Tryd.underlying29 Hi.out Hz1.out w.heap.size k 3 _ rfl (Howr.out.alloc _) ⟨_, 0, none⟩ 1 1 [.int .i64 x] rfl rfl ?d2 ?d3 ?d4 ?_)
      case d2 =>
        intro j u hj
        match j, hj with
        | 0, hj => simp at hj; subst hj; simp [Addr.add]
      case d3 => intro u hu; simp at hu; subst hu; rfl
      case d4 => omega
      intro wn hownn hgrn
      have Hown' := hid (own_int Hx.out (by rw [HL.out]; omega) hownn)
      have Hbn := hid ((Hbr.out.alloc Hbr.out.size _).grown hgrn (by have := Hbr.out.size; simp; omega) (by intro j hj; cases hj; exact Nat.le_refl _))
      clear hownn hgrn
      go_wp2_with fail
      go_roundw
      case rel => exact ⟨k + 1, by omega, by go_num, rfl, Hown', Hbn⟩
      case measure => simp [intOf]; omega
    · obtain rfl : k = 3 := by omega
      have e3 : ts.take 3 = ts := List.take_of_length_le (by rw [HL.out]; omega)
      rw [e3] at Howr
      clear e3
      have hlt3 := (Howr.out.lt w.heap.size rfl).2
      have Q := quote_any bm w.heap.size 0 3 ts HP.out wr (HN.out.below Hbr.out) hlt3 (fun j hj => by
        rw [Nat.zero_add, Howr.out.cellAt j (by omega)]
        simp [List.getD_eq_getElem?_getD, List.getElem?_eq_getElem (show j < ts.length by rw [HL.out]; omega)])
      have HQ := hid Q
      clear Q
      go_wp2_with fail
      refine HQ.out.mono ?_
      rintro e w2 ⟨rfl, hb2⟩
      go_wp2_with fail
      go_ret
      exact ⟨rfl, Hbr.out.trans (hb2.mono (Nat.le_of_lt hlt3))⟩

theorem keys_laid : intKeys (Rows.laid_example_com_tripline_tripline_tripNames (H := Unit)) = [1, 2, 3] := by kernel_rfl
theorem size_laid : Maps.size (Rows.laid_example_com_tripline_tripline_tripNames (H := Unit)) = 3 := by kernel_rfl

/-- maps.Keys at the map of names, then slices.Collect: the three numbers in some order. -/
theorem keys_any (mb : Option Nat) (w : World) :
    Calls Tryd.prog 13 #[.map mb] w fun e w' => e = .returned (.func (.func 18) #[] #[.pointer (some ⟨w.heap.size, 0, none⟩)]) ∧ w' = w.alloc (.cells #[.map mb] 32) :=
  (callsIn_wide (n := 5)).1 (AnyZI.keys_in Tryd.keysA Fence.wide 5 trivial rfl mb w)

theorem collect_any (bm B : Nat) (w : World) (h : Names w bm) (hB : B < w.heap.size) (hc : w.cell? ⟨B, 0, none⟩ = some (.map (some bm))) :
    Calls Tryd.prog 12 #[.func (.func 18) #[] #[.pointer (some ⟨B, 0, none⟩)]] w fun e w' => ∃ (g c : Nat) (ts : List Int), e = .returned (.slice (some ⟨g, 0, none⟩) 3 c) ∧ Hid (ts.Perm [1, 2, 3]) ∧ g < w'.heap.size ∧
      Hid (∀ j, j < 3 → w'.cell? ⟨g, j, none⟩ = some (.int .i64 (ts.getD j 0))) ∧ Below w.heap.size w w' := by
  obtain ⟨n, hown⟩ := h.own
  have hseq : SeqGives Fence.wide 3 Tryd.prog 18 #[.pointer (some ⟨B, 0, none⟩)] encZ (fun ss => ss.Perm (intKeys (Rows.laid_example_com_tripline_tripline_tripNames (H := Unit)))) (Maps.size (Rows.laid_example_com_tripline_tripline_tripNames (H := Unit))) w :=
    AnyZI.keys_gives (ρ := Tryd.keysA_ren) { Tryd.keysA with } Fence.wide _ trivial rfl (by omega) B bm n _ w hB hc hown
  refine ((callsIn_wide (n := 5)).1 (AnyZI.collect_in Tryd.collectA Fence.wide 5 trivial trivial rfl (by omega) 18 #[.pointer (some ⟨B, 0, none⟩)] trivial (enters_of Tryd.func18 (by kernel_rfl) rfl) _ _ (by rw [size_laid]; unfold maxLen; omega) (by rw [size_laid]; omega) w hseq)).mono ?_
  rintro e w' ⟨v, ss, rfl, hS, hrow, hnil, hb⟩
  rw [keys_laid] at hS
  have hl : ss.length = 3 := by rw [hS.length_eq]; rfl
  obtain ⟨_, ⟨rfl, h0⟩ | ⟨g, cap, cur, rfl, _, hbk, _⟩⟩ := id hrow
  · omega
  rw [hl] at hrow ⊢
  refine ⟨g, cap, ss, rfl, hS, (Array.getElem?_eq_some_iff.1 hbk).1, fun j hj => ?_, hb⟩
  rw [hrow.cellAt j (by omega)]
  simp [List.getD_eq_getElem?_getD, List.getElem?_eq_getElem (show j < ss.length by omega)]

set_option maxHeartbeats 1000000 in
/-- ZZtripChoices, and tripChoices inside it. -/
theorem choices_any (bm : Nat) (w : World) (h : Names w bm) :
    Calls Tryd.prog 5 #[] w fun e w' => e = .returned (.string ⟨want.toArray⟩) ∧ Below w.heap.size w w' := by
  have hc := h.cell
  have HN := hid h
  clear h
  go_enter Tryd.func5, Tryd.ntmps5
  go_wp2_with (go_at_call 9; go_in)
  refine (keys_any _ _).mono ?_
  rintro e w1 ⟨rfl, rfl⟩
  have hb1 : Below w.heap.size w (w.alloc (.cells #[.map (some bm)] 32)) := (Below.refl _ w).alloc (Nat.le_refl _) _
  have C := collect_any bm w.heap.size _ (HN.out.below hb1) (by simp) (by simp)
  have HC := hid C
  have Hb1 := hid hb1
  clear C hb1
  go_wp2_with fail
  refine HC.out.mono ?_
  rintro e w2 ⟨g, c, ts, rfl, HP, hg, HCell, hb2⟩
  have Q := quote_any bm g 0 c ts HP.out w2 ((HN.out.below Hb1.out).below hb2) hg (fun j hj => by rw [Nat.zero_add]; exact HCell.out j hj)
  have HQ := hid Q
  have Hb2 := hid (Hb1.out.trans (hb2.mono (by simp)))
  clear Q hb2
  go_wp2_with fail
  refine HQ.out.mono ?_
  rintro e w3 ⟨rfl, hb3⟩
  have Hb3 := hid (Hb2.out.trans (hb3.mono Hb2.out.size))
  clear hb3
  go_wp2_with fail
  go_ret
  exact ⟨rfl, Hb3.out⟩

/-- The text, its bytes written out. -/
theorem want_lit : ByteArray.mk want.toArray = ByteArray.mk #[34, 98, 117, 100, 103, 101, 116, 34, 44, 32, 34, 99, 111, 110, 115, 101, 99, 117, 116, 105, 118, 101, 34, 32, 111, 114, 32, 34, 114, 97, 116, 101, 34] := rfl

set_option maxRecDepth 100000 in
set_option maxHeartbeats 2000000 in
/-- THE LAW, the three rules in some order. -/
theorem law_in (bm : Nat) (a b c : Int) (hp : [a, b, c].Perm [1, 2, 3]) (w : World) (h : Names w bm) (ha : ¬ a < 1) (ha' : ¬ 3 < a) (hb : ¬ b < 1) (hb' : ¬ 3 < b) (hc : ¬ c < 1) (hc' : ¬ 3 < c)
    (h1 : (a == b) = false) (h2 : (b == c) = false) (h3 : (a == c) = false) :
    Calls Tryd.prog 3 #[.int .i64 a, .int .i64 b, .int .i64 c] w fun e w' => e = .returned (.bool true) ∧ Below w.heap.size w w' := by
  have HN := hid h
  have HP := hid hp
  have C := choices_any bm w h
  rw [want_lit] at C
  have HC := hid C
  clear h hp C
  go_enter Tryd.func3, Tryd.ntmps3
  go_wp2_with fail
  refine HC.out.mono ?_
  rintro e w1 ⟨rfl, hb1⟩
  have hsz := hb1.size
  have Hb1 := hid hb1
  have hb2 : Below w1.heap.size w1 (w1.alloc (.cells #[.int .i64 a, .int .i64 b, .int .i64 c] 3)) := (Below.refl _ w1).alloc (Nat.le_refl _) _
  have Z := zz_any bm w1.heap.size 3 [a, b, c] HP.out _ ((HN.out.below hb1).below hb2) (by simp) (fun j hj => by
    rcases (show j = 0 ∨ j = 1 ∨ j = 2 by omega) with rfl | rfl | rfl <;> simp)
  rw [want_lit] at Z
  have HZ := hid Z
  have Hb2 := hid (Hb1.out.trans (hb2.mono hsz))
  clear hb1 hb2 Z HN HC
  go_wp2_with fail
  refine HZ.out.mono ?_
  rintro e w3 ⟨rfl, hb3⟩
  have Hb3 := hid (Hb2.out.trans (hb3.mono Hb2.out.size))
  clear hb3
  go_wp2_with fail
  go_ret
  exact ⟨rfl, Hb3.out⟩

set_option maxRecDepth 100000 in
set_option maxHeartbeats 4000000 in
/-- THE LAW where one of its first tests lets it off. -/
theorem law_out (a b c : Int) (w : World) (h : a < 1 ∨ 3 < a ∨ b < 1 ∨ 3 < b ∨ c < 1 ∨ 3 < c ∨ a = b ∨ b = c ∨ a = c) :
    Calls Tryd.prog 3 #[.int .i64 a, .int .i64 b, .int .i64 c] w fun e w' => e = .returned (.bool true) ∧ Below w.heap.size w w' := by
  by_cases h1 : a < 1
  · clear h
    go_enter Tryd.func3, Tryd.ntmps3
    go_wp2_with fail
    go_ret
    exact ⟨rfl, Below.refl _ _⟩
  by_cases h2 : 3 < a
  · clear h
    go_enter Tryd.func3, Tryd.ntmps3
    go_wp2_with fail
    go_ret
    exact ⟨rfl, Below.refl _ _⟩
  by_cases h3 : b < 1
  · clear h
    go_enter Tryd.func3, Tryd.ntmps3
    go_wp2_with fail
    go_ret
    exact ⟨rfl, Below.refl _ _⟩
  by_cases h4 : 3 < b
  · clear h
    go_enter Tryd.func3, Tryd.ntmps3
    go_wp2_with fail
    go_ret
    exact ⟨rfl, Below.refl _ _⟩
  by_cases h5 : c < 1
  · clear h
    go_enter Tryd.func3, Tryd.ntmps3
    go_wp2_with fail
    go_ret
    exact ⟨rfl, Below.refl _ _⟩
  by_cases h6 : 3 < c
  · clear h
    go_enter Tryd.func3, Tryd.ntmps3
    go_wp2_with fail
    go_ret
    exact ⟨rfl, Below.refl _ _⟩
  by_cases h7 : a = b
  · clear h
    have h7' : (a == b) = true := by simp [h7]
    clear h7
    go_enter Tryd.func3, Tryd.ntmps3
    go_wp2_with fail
    go_ret
    exact ⟨rfl, Below.refl _ _⟩
  have h7' : (a == b) = false := by simp [h7]
  by_cases h8 : b = c
  · clear h
    have h8' : (b == c) = true := by simp [h8]
    clear h8 h7
    go_enter Tryd.func3, Tryd.ntmps3
    go_wp2_with fail
    go_ret
    exact ⟨rfl, Below.refl _ _⟩
  have h8' : (b == c) = false := by simp [h8]
  have h9 : a = c := by omega
  have h9' : (a == c) = true := by simp [h9]
  clear h h7 h8 h9
  go_enter Tryd.func3, Tryd.ntmps3
  go_wp2_with fail
  go_ret
  exact ⟨rfl, Below.refl _ _⟩

/-- THE LAW. -/
theorem law_any (bm : Nat) (a b c : Int) (w : World) (h : Names w bm) :
    Calls Tryd.prog 3 #[.int .i64 a, .int .i64 b, .int .i64 c] w fun e w' => e = .returned (.bool true) ∧ Below w.heap.size w w' := by
  by_cases ho : a < 1 ∨ 3 < a ∨ b < 1 ∨ 3 < b ∨ c < 1 ∨ 3 < c ∨ a = b ∨ b = c ∨ a = c
  · exact law_out a b c w ho
  · have hp : [a, b, c].Perm [1, 2, 3] := by
      rcases (show (a = 1 ∧ b = 2 ∧ c = 3) ∨ (a = 1 ∧ b = 3 ∧ c = 2) ∨ (a = 2 ∧ b = 1 ∧ c = 3) ∨ (a = 2 ∧ b = 3 ∧ c = 1) ∨ (a = 3 ∧ b = 1 ∧ c = 2) ∨ (a = 3 ∧ b = 2 ∧ c = 1) by omega) with ⟨rfl, rfl, rfl⟩ | ⟨rfl, rfl, rfl⟩ | ⟨rfl, rfl, rfl⟩ | ⟨rfl, rfl, rfl⟩ | ⟨rfl, rfl, rfl⟩ | ⟨rfl, rfl, rfl⟩ <;> decide
    exact law_in bm a b c hp w h (by omega) (by omega) (by omega) (by omega) (by omega) (by omega) (by simp; omega) (by simp; omega) (by simp; omega)
end Go.Proofs.Qxb6612870aDoor
