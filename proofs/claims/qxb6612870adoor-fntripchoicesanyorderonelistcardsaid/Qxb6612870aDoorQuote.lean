/-
  quoteTrips at the three rules in any order.
-/
import Derived.Test.Qxb6612870aDoorNames
import Derived.Sort.OwnSorted
import Derived.Sort.KeysCollected
import Derived.Deep.RegionWith
namespace Go.Proofs.Qxb6612870aDoor
open Go.RowKit Go.Maps Go.Sort
set_option linter.unusedVariables false

theorem hid {p : Prop} (h : p) : Hid p := h
theorem Tryd.info9 : (Tryd.prog.info? 9).map (fun i => (i.zero, i.size, i.bytes)) = some (some (.string ⟨#[]⟩), 1, 16) := by kernel_rfl

/-- The name in its quotes. -/
def quoted (t : Int) : List UInt8 := 34 :: (nameOf t ++ [34])

theorem name_le (t : Int) : (nameOf t).length ≤ 11 := by
  unfold nameOf
  split
  · decide
  · split <;> decide

theorem quoted_eq (t : Int) : (ByteArray.mk #[34] ++ ByteArray.mk (nameOf t).toArray ++ ByteArray.mk #[34]) = ByteArray.mk (quoted t).toArray := by
  apply ByteArray.ext
  rw [ByteArray.data_append, ByteArray.data_append]
  simp [quoted]

/-- Behind the sort: budget, consecutive, rate. -/
theorem sorted_eq {ts : List Int} (h : ts.Perm [1, 2, 3]) : (ts.map quoted).mergeSort (fun x y => decide (x ≤ y)) = [quoted 3, quoted 1, quoted 2] := by
  have h1 : (ts.map quoted).Perm [quoted 3, quoted 1, quoted 2] :=
    (h.map quoted).trans (by decide)
  exact (mergeSort_of_perm h1).trans (List.mergeSort_of_pairwise (by decide))

/-- What the list reads as. -/
def want : List UInt8 := [34, 98, 117, 100, 103, 101, 116, 34, 44, 32, 34, 99, 111, 110, 115, 101, 99, 117, 116, 105, 118, 101, 34, 32, 111, 114, 32, 34, 114, 97, 116, 101, 34]

theorem own_step {wn : World} {B k : Nat} {ts : List Int} {x : Int} (hx : x = ts.getD k 0) (hk : k < ts.length)
    (h : wn.ownsRow B 9 1 (.slice (some ⟨B, 0, none⟩) (k + 1) 3) (k + 1) ((ts.map (encStr ∘ quoted)).take k ++ [.string (ByteArray.mk #[34] ++ ByteArray.mk (nameOf x).toArray ++ ByteArray.mk #[34])])) :
    wn.ownsRow B 9 1 (.slice (some ⟨B, 0, none⟩) (k + 1) 3) (k + 1) (((ts.take (k + 1)).map quoted).map encStr) := by
  have e : ((ts.take (k + 1)).map quoted).map encStr = (ts.map (encStr ∘ quoted)).take k ++ [.string (ByteArray.mk #[34] ++ ByteArray.mk (nameOf x).toArray ++ ByteArray.mk #[34])] := by
    rw [quoted_eq, hx, List.map_map, List.map_take, List.take_succ_eq_append_getElem (by simpa using hk)]
    simp [List.getD_eq_getElem?_getD, List.getElem?_eq_getElem hk]
  rw [e]
  exact h

theorem join_eq : Lib.join ([ByteArray.mk (quoted 3).toArray, ByteArray.mk (quoted 1).toArray].map (·.data.toList)) (ByteArray.mk #[44, 32]).data.toList = [34, 98, 117, 100, 103, 101, 116, 34, 44, 32, 34, 99, 111, 110, 115, 101, 99, 117, 116, 105, 118, 101, 34] := by decide

theorem want_eq : (ByteArray.mk [34, 98, 117, 100, 103, 101, 116, 34, 44, 32, 34, 99, 111, 110, 115, 101, 99, 117, 116, 105, 118, 101, 34].toArray ++ ByteArray.mk #[32, 111, 114, 32] ++ ByteArray.mk #[34, 114, 97, 116, 101, 34]) = ByteArray.mk want.toArray := by
  apply ByteArray.ext
  rw [ByteArray.data_append, ByteArray.data_append]
  decide

theorem ret_str {a b : ByteArray} (h : a = b) : Ending.returned (.string a) = .returned (.string b) := by rw [h]

/-- The sort, at the row of names. -/
theorem sort_names {w wr : World} {ts : List Int} (hts : ts.Perm [1, 2, 3]) (hb : Below w.heap.size w wr)
    (h : wr.ownsRow w.heap.size 9 1 (.slice (some ⟨w.heap.size, 0, none⟩) 3 3) 3 ((ts.map quoted).map encStr)) :
    Calls Tryd.prog 14 #[.slice (some ⟨w.heap.size, 0, none⟩) 3 3] wr fun e w' => e = .returned (.tuple #[]) ∧
      w'.ownsRow w.heap.size 9 1 (.slice (some ⟨w.heap.size, 0, none⟩) 3 3) 3 ([quoted 3, quoted 1, quoted 2].map encStr) ∧ Below w.heap.size w w' := by
  have hl : (ts.map quoted).length = 3 := by rw [List.length_map, hts.length_eq]; rfl
  obtain ⟨_, ⟨hnil, _⟩ | ⟨g, cap, cur, hv, hbase, hbk, h1, h2, h3, h4⟩⟩ := h
  · cases hnil
  simp only [Value.slice.injEq, Option.some.injEq, Addr.mk.injEq, and_true, true_and] at hv
  obtain ⟨rfl, rfl⟩ := hv
  have hH : Holds encStr wr w.heap.size 0 (ts.map quoted).toArray := holds_of_block hbk (by rw [hl]; simpa using h4)
  have C := Tryd.slices_Sort_string w.heap.size 0 3 (ts.map quoted) wr hH (Array.getElem?_eq_some_iff.1 hbk).1 (by omega)
  rw [hl, sorted_eq hts] at C
  refine C.mono ?_
  rintro e w' ⟨he, nn, os, rfl⟩
  exact ⟨he, ownsRow_sorted (ss := [quoted 3, quoted 1, quoted 2]) rfl hbase hbk h1 h2 h3, hb.grown (grownBy_sorted _) hb.size (fun j hj => by cases hj; exact hbase)⟩

theorem three_of {ts : List Int} (h : ts.length = 3) : ∃ x y z, ts = [x, y, z] := by
  match ts, h with
  | [x, y, z], _ => exact ⟨x, y, z, rfl⟩

set_option maxRecDepth 100000 in
set_option maxHeartbeats 2000000 in
theorem quote_any (bm g o c : Nat) (ts : List Int) (hts : ts.Perm [1, 2, 3]) (w : World) (h : Names w bm) (hg : g < w.heap.size)
    (hc : ∀ j, j < 3 → w.cell? ⟨g, o + j, none⟩ = some (.int .i64 (ts.getD j 0))) :
    Calls Tryd.prog 10 #[.slice (some ⟨g, o, none⟩) 3 c] w fun e w' => e = .returned (.string ⟨want.toArray⟩) ∧ Below w.heap.size w w' := by
  have hlen : ts.length = 3 := by rw [hts.length_eq]; rfl
  have htrip : ∀ j, j < 3 → IsTrip (ts.getD j 0) := fun j hj => by
    have : ts.getD j 0 ∈ ts := by rw [List.getD_eq_getElem?_getD, List.getElem?_eq_getElem (show j < ts.length by omega)]; simp
    have := hts.mem_iff.1 this
    simpa [IsTrip] using this
  obtain ⟨i0, hinfo, hz0, hz1, hz2⟩ := info_parts Tryd.info9
  have Hi := hid hinfo
  have Hz0 := hid hz0
  have Hz1 := hid hz1
  have Hz2 := hid hz2
  have HN := hid h
  have HC := hid hc
  have HT := hid htrip
  have HP := hid hts
  have HL := hid hlen
  clear hinfo hz0 hz1 hz2 h hc htrip hts hlen
  go_enter Tryd.func10, Tryd.ntmps10
  go_wp2_with (at_make; refine wpList_make_own _ rfl _ _ 38 rfl w.heap.size 9 i0 (.string ⟨#[]⟩) 1 Tryd.underlying38 Hi.out Hz0.out Hz1.out _ _ _ 3 rfl rfl rfl ?c1 ?c2 ?c3 ?_)
  case c1 => rw [Hz2.out]; omega
  case c2 => unfold maxLen; omega
  case c3 => omega
  intro w1 hown hgrow
  have Hown := hid hown
  have Hb1 := hid ((Below.refl _ w).grown hgrow (Nat.le_refl _) (by intro g h; cases h))
  clear hown hgrow
  go_wp2_with fail
  go_loopw [3, 12] (fun v ei wr => ∃ k : Nat, k ≤ 3 ∧ ei = .int .i64 k ∧ v = .slice (some ⟨w.heap.size, 0, none⟩) k 3 ∧ Hid (wr.ownsRow w.heap.size 9 1 (.slice (some ⟨w.heap.size, 0, none⟩) k 3) k (((ts.take k).map quoted).map encStr)) ∧ Hid (Below w.heap.size w wr)) (fun _ ei _ => 3 - (intOf ei).toNat)
  case atStart => exact ⟨0, by omega, rfl, rfl, Hown.out, Hb1.out⟩
  case round =>
    obtain ⟨k, hk, rfl, rfl, Howr, Hbr⟩ := hrel
    by_cases hlt : k < 3
    · have hck : wr.cell? ⟨g, o + k, none⟩ = some (.int .i64 (ts.getD k 0)) := (Hbr.out.cell hg).trans (HC.out k hlt)
      have ht := hid (HT.out k hlt)
      have HNr := hid (HN.out.below Hbr.out)
      obtain ⟨x, hx⟩ : ∃ x, x = ts.getD k 0 := ⟨_, rfl⟩
      rw [← hx] at hck ht
      have Hx := hid hx
      have hnl := name_le x
      clear hx
      go_wp2_with (first | (go_at_call 7; refine (string_any bm x ht.out _ HNr.out).mono ?_; rintro e w' ⟨rfl, rfl⟩) | (at_builtin; refine wpList_append_fits _ rfl (.tmp 16) (.tmp 21) 38 rfl w.heap.size 9 i0 1 Tryd.underlying38 Hi.out Hz1.out w.heap.size k 3 _ rfl (Howr.out.alloc _) ⟨_, 0, none⟩ 1 1 [.string (ByteArray.mk #[34] ++ ByteArray.mk (nameOf x).toArray ++ ByteArray.mk #[34])] rfl rfl ?d2 ?d3 ?d4 ?_))
      case d2 =>
        intro j u hj
        match j, hj with
        | 0, hj => simp at hj; subst hj; simp [Addr.add]
      case d3 => intro u hu; simp at hu; subst hu; rfl
      case d4 => omega
      intro wn hownn hgrn
      have Hown' := hid (own_step Hx.out (by rw [HL.out]; omega) hownn)
      have Hbn := hid ((Hbr.out.alloc Hbr.out.size _).grown hgrn (by have := Hbr.out.size; simp; omega) (by intro j hj; cases hj; exact Nat.le_refl _))
      clear hownn hgrn
      go_wp2_with fail
      go_roundw
      case rel => exact ⟨k + 1, by omega, by go_num, rfl, Hown', Hbn⟩
      case measure => simp [intOf]; omega
    · obtain rfl : k = 3 := by omega
      have e3 : ts.take 3 = ts := List.take_of_length_le (by rw [HL.out]; omega)
      rw [e3] at Howr
      clear e3
      go_wp2_with fail
      refine (sort_names HP.out Hbr.out Howr.out).mono ?_
      rintro e w2 ⟨rfl, hown2, hb2⟩
      have hg2 : w.heap.size < w2.heap.size := (hown2.lt w.heap.size rfl).2
      have c0 : w2.cell? ⟨w.heap.size, 0, none⟩ = some (.string ⟨#[34, 98, 117, 100, 103, 101, 116, 34]⟩) := hown2.cellAt 0 (by omega)
      have c1 : w2.cell? ⟨w.heap.size, 1, none⟩ = some (.string ⟨#[34, 99, 111, 110, 115, 101, 99, 117, 116, 105, 118, 101, 34]⟩) := hown2.cellAt 1 (by omega)
      have c2 : w2.cell? ⟨w.heap.size, 2, none⟩ = some (.string ⟨#[34, 114, 97, 116, 101, 34]⟩) := hown2.cellAt 2 (by omega)
      have J := Tryd.strings_Join w.heap.size 0 3 [ByteArray.mk (quoted 3).toArray, ByteArray.mk (quoted 1).toArray] (ByteArray.mk #[44, 32]) w2.drew
        (fun j x hj => by
          match j, hj with
          | 0, hj => simp at hj; subst hj; exact c0
          | 1, hj => simp at hj; subst hj; exact c1) hg2 (by decide) (by decide) (by rw [join_eq]; decide)
      rw [join_eq] at J
      have HJ := hid J
      have Hb2 := hid hb2
      clear J hown2 hb2
      go_wp2_with fail
      go_region_with (go_at_call 15; refine HJ.out.mono ?_; rintro e w3 ⟨rfl, hb3⟩; have c23 := (hb3.cell (p := ⟨w.heap.size, 2, none⟩) hg2).trans c2)
      all_goals
        go_wp2_with fail
        go_ret
        exact ⟨ret_str want_eq, (Hb2.out.drew).trans (hb3.mono (Nat.le_of_lt hg2))⟩
end Go.Proofs.Qxb6612870aDoor
