/-
  THE ROW, PROVED: the listed map is opened, the walk is taken, the arguments and the variable read as before; and THE TIED CARD by the builder's one call.
-/
import Derived.Test.Qxb6612870aDoorChoices
import Derived.Test.Qxb6612870aDoorTie
import Derived.Test.Qxb6612870aDoorCards
import Derived.ProofKit
import Derived.LaidMore
import Derived.OpenShut
import Derived.Stop.Joined
import Derived.Stop.LaidErr
import Derived.WalkSmall
import Derived.SevenTiedAt
namespace Go.Proofs.Qxb6612870aDoor
open Go.ChangeShapes Go.WideShapes Go.ChangeAt Go.WideMaps Go.WideElems Go.RowKit Go.Maps
set_option linter.unusedVariables false

theorem own : ownKnob Tryd.prog.godebug = none := by kernel_rfl
theorem laidOut : laidOutB Tryd.prog = true := by kernel_rfl

theorem cell_lt {w : World} {a : Addr} {v : Value} (h : w.cell? a = some v) : a.block < w.heap.size := by
  unfold World.cell? at h
  by_cases hb : a.block < w.heap.size
  · exact hb
  · simp [Array.getElem?_eq_none (Nat.le_of_not_lt hb)] at h

/-- The variable's name: the one that the specification names. -/
def vn : String := Rows.fnTripChoicesAnyOrderOneListSpec.vars.headD ""
theorem gN : Tryd.prog.globalNamed vn = some 0 := by kernel_rfl
theorem tN : (Tryd.prog.globals[0]?).map (·.type) = some 32 := by kernel_rfl

/-- The door's own heap meets the condition. -/
theorem door_met (os : Os) (args : Array Value) : laidMetH Tryd.prog Rows.fnTripChoicesAnyOrderOneListRow.laid ((World.doorLaid Tryd.prog 400 os).forCall (fun _ _ => 0) ⟨#[], args, []⟩).memory :=
  laidMetH_of_parts3 (fuel := 8) (laidMet_of_run' 8 (by kernel_rfl) (by kernel_rfl)) (by kernel_rfl) (by kernel_rfl)

/-- WHAT THE CONDITION GIVES THE WALK. -/
theorem of_laid {W : World} (h : laidMetH Tryd.prog Rows.fnTripChoicesAnyOrderOneListRow.laid W) : ∃ bm, Names W bm := by
  rw [MakeChecks.laidMetH_plain _ _ _ (by kernel_rfl)] at h
  obtain ⟨ps, ⟨g0, t0, cs0, f0, p0, q0, hg0, ht0, hv0, hd0, ⟨g1, t1, cs1, f1, p1, q1, hg1, ht1, hv1, hd1, ⟨g2, t2, cs2, f2, p2, q2, hg2, ht2, hv2, hd2, ⟨g3, t3, cs3, f3, p3, q3, hg3, ht3, hv3, hd3, _, _⟩, _⟩, _⟩, _⟩, _, _⟩ := h
  obtain rfl := Option.some.inj (gN.symm.trans hg3)
  obtain rfl := Option.some.inj (tN.symm.trans ht3)
  rcases open_map Tryd.underlying32 hd3 with ⟨_, hx⟩ | ⟨bm, es, clock, m, rfl, hcs, hb, _, F, hx⟩
  · simp [Rows.laid_example_com_tripline_tripline_tripNames] at hx
  simp only [Prod.mk.injEq] at hx
  have hcell : W.cell? ⟨0, 0, none⟩ = some (.map (some bm)) := by
    have := World.var?_cell hg3 hv3 0
    rw [Array.eq_one_of_toList hcs] at this
    simpa using this
  refine ⟨bm, hcell, cell_lt hcell, (Array.getElem?_eq_some_iff.1 hb).1, es.size, ?_⟩
  have := World.ownsMap_of_fit (R := plainElem Tryd.prog 9) hb F (fun x _ z hz => elemAt_plainElem_string Tryd.underlying9 hz)
  rw [← hx.1] at this
  exact this

set_option maxRecDepth 100000 in
theorem lifted (os : Os) (started : os.Started) (H : Type) (enc : TypeId × Value → H) :
    ReturnsInHanded {} Tryd.checked os 3 .any (fun w args => (Rows.fnTripChoicesAnyOrderOneListSpec.pre enc Tryd.prog Tryd.f3 [] false w args ∧ laidMetH Tryd.prog Rows.fnTripChoicesAnyOrderOneListRow.laid w) ∧ sizedMet enc Tryd.prog Tryd.f3 (OpenSpec.ofChange Rows.fnTripChoicesAnyOrderOneListSpec) false w args)
      (Rows.fnTripChoicesAnyOrderOneListSpec.post enc Tryd.prog Tryd.f3 false true false false) := by
  refine returnsInHanded_of_change_and (C := Tryd.checked) (X := fun w _ => laidMetH Tryd.prog Rows.fnTripChoicesAnyOrderOneListRow.laid w) (fun _ _ _ hh h => h.of_heap hh) own started (by kernel_rfl) Tryd.func3
    (ChangeSpec.witness_shaped (enc := enc) (C := Tryd.checked) (os := os) (X := fun w _ => laidMetH Tryd.prog Rows.fnTripChoicesAnyOrderOneListRow.laid w) false (World.doorLaid Tryd.prog 400 os) #[.int .i64 0, .int .i64 0, .int .i64 0] 8 rfl (World.shaped_of_RefB (by kernel_rfl) (by kernel_rfl)) (by kernel_rfl) (by kernel_rfl) (by kernel_rfl) (door_met os _)) ?_
  intro W base args ds gs before hval0 hW _ _ hL _
  have hval : ∀ (j : Nat) t v, Tryd.f3.params[j]? = some t → args[j]? = some v → Value.okWide Tryd.prog W .any base t v := hval0
  have hW' := hW
  obtain ⟨p, q, hA0, hV0, rfl, hfz, hnd⟩ := hW
  have hA : DataW.TrodAll enc Tryd.prog W 0 (fun _ => true) true Tryd.f3.params.toList args.toList ds p := hA0
  have hV : DataW.TrodVars enc Tryd.prog W (fun _ => true) [vn] gs q := hV0
  rw [Tryd.params3] at hA hval
  obtain ⟨v0, vs0, d0, ds0, p0, q0, hargs, rfl, rfl, h0, r0⟩ := trodAll_cons hA
  obtain ⟨v1, vs1, d1, ds1, p1, q1, rfl, rfl, rfl, h1, r1⟩ := trodAll_cons r0
  obtain ⟨v2, vs2, d2, ds2, p2, q2, rfl, rfl, rfl, h2, r2⟩ := trodAll_cons r1
  obtain ⟨rfl, rfl, rfl⟩ := trodAll_nil r2
  obtain rfl : args = #[v0, v1, v2] := by cases args; simp_all
  obtain ⟨a0, rfl, rfl, rfl, w0⟩ := open_int Tryd.underlying3 (hval 0 3 v0 rfl rfl) h0
  obtain ⟨a1, rfl, rfl, rfl, w1⟩ := open_int Tryd.underlying3 (hval 1 3 v1 rfl rfl) h1
  obtain ⟨a2, rfl, rfl, rfl, w2⟩ := open_int Tryd.underlying3 (hval 2 3 v2 rfl rfl) h2
  obtain ⟨g, t, cs, fuel, d, p', rfl, hg, ht, hvar, hd, rfl⟩ := trodVars_one hV
  obtain rfl := Option.some.inj (gN.symm.trans hg)
  obtain rfl := Option.some.inj (tN.symm.trans ht)
  obtain ⟨bm, hN⟩ := of_laid hL
  -- the variable's one cell
  obtain ⟨cv, rfl⟩ : ∃ cv, cs = #[.map cv] := by
    rcases open_map Tryd.underlying32 hd with ⟨hcs, _⟩ | ⟨b, es, clock, m, _, hcs, _⟩
    · exact ⟨none, Array.eq_one_of_toList hcs⟩
    · exact ⟨some b, Array.eq_one_of_toList hcs⟩
  have hlt : ∀ x ∈ p', x.block < W.heap.size := fun x hx => DataW.trod_lt fuel _ _ _ hd x hx
  have hT : DataW.Trod enc Tryd.prog W 0 (fun _ => true) true 32 (.map cv) d p' := ⟨fuel, by simpa [Value.cells] using hd⟩
  have hvars : ∀ W' : World, Below W.heap.size W W' → DataW.TrodVars enc Tryd.prog W' (fun b => decide (b < W.heap.size)) [vn] [d] (MemPlace.row ⟨0, 0, none⟩ 1 ++ p') := fun W' bel => by
    obtain ⟨f', hd'⟩ := Below.trod laidOut (by kernel_rfl) (of_decide_eq_true (by kernel_rfl)) hT bel hlt
    exact trodVars_mk1 (enc := enc) (w := W') (spare := fun b => decide (b < W.heap.size)) (fuel := f') (cs := #[.map cv]) gN tN (var?_below bel gN hN.zero hvar) (by simpa [Value.cells] using hd')
  clear hA0 hval0 hV0
  refine (law_any bm a0 a1 a2 W hN).mono fun e W' ⟨he, bel⟩ => ?_
  subst he
  exact ⟨_, rfl, _, _, _, [], _, _, hW', trodAll_mk1 (shut_bool Tryd.underlying4 _), trodAll_cons_mk (shut_int Tryd.underlying3 w0) (trodAll_cons_mk (shut_int Tryd.underlying3 w1) (trodAll_cons_mk (shut_int Tryd.underlying3 w2) trodAll_mk0)), hvars W' bel, bel.frame _, fun h => by cases h⟩

/-- THE ROW. -/
theorem row_holds : Rows.FnTripChoicesAnyOrderOneListSaid :=
  OpenClaim.holds_of_wide 3 Tryd.f3 rfl rfl rfl rfl rfl rfl rfl ⟨rfl, rfl, rfl, rfl, rfl⟩ rfl rfl rfl rfl rfl (by kernel_rfl) Tryd.func3 (by kernel_rfl)
    (of_decide_eq_true (by kernel_rfl)) (by unfold Func.isWrapper; first | (rw [if_pos (by decide +kernel)]; kernel_rfl) | (rw [if_neg (by decide +kernel)]; exact ⟨rfl, rfl⟩))
    (fun os started H enc _ => lifted os started H enc)

/-- ████ THE STATEMENT: the tied card ████ -/
theorem card_holds : Rows.FnTripChoicesAnyOrderOneListCardSaid :=
  Claim7.holds_tied_plain_at .later [] [.data, .data, .data, .mappedDeep] true (true, "3591f91f0c167f0600ade9064ad71f4c5e7011cacd4fcc0a892191e5fbf13995") false
    row_holds (fun _ h => by cases h) (by kernel_rfl) (fun _ h => by cases h) fnTripChoicesAnyOrderOneList_row_tie rfl ⟨rfl, rfl⟩ (by kernel_rfl) rfl
    (fun f fn hf hfn => by
      obtain rfl : f = 3 := Option.some.inj ((show Tryd.prog.funcNamed Rows.fnTripChoicesAnyOrderOneListRow.func = some 3 by kernel_rfl).symm.trans hf) |>.symm
      obtain rfl : fn = Tryd.f3 := (Option.some.inj (Tryd.func3.symm.trans hfn)).symm
      exact ⟨by kernel_rfl, fun j t ht => by
        rw [Tryd.params3] at ht
        have hm : t ∈ [3, 3, 3] := by simpa using Array.mem_of_getElem? ht
        have hall : ([3, 3, 3].all fun u => !Tryd.prog.wantsStandIn u) = true := by kernel_rfl
        exact (show Tryd.prog.wantsStandIn t = false by simpa using List.all_eq_true.1 hall t hm)⟩)
    (by kernel_rfl)
end Go.Proofs.Qxb6612870aDoor
