/-
  DERIVED. GIVEN WITH THE SEED: THE CARDS: each row of Qxb6612870aDoorRows.lean that lists a variable, with what it lists TIED to the program's text (the seventh form; the later family's looks); each row that meets fmt, with fmt's text TOLD by the authors' own Lean function (tested against real Go, not proved from fmt's source: count such statements apart). THE CARD IS WHAT COUNTS. Prove the row's statement (the work); the ties are given (Qxb6612870aDoorTie.lean); close each card by the builder's one call (the guide's Derived/Test/ToyasCard.lean, 'card_holds'). Laid BY PROGRAM, IN A SANDBOX (cutbox-door.mjs). By AI agents, Wed Nov 11 2026. No macro, syntax, notation, axiom, sorry.
-/
import Derived.Test.Qxb6612870aDoorRows
import GoSem.ClaimSeven
namespace Go.Proofs.Qxb6612870aDoor
namespace Rows

/-- THE TIED CARD OF 'zzlaws_root_b1.FnTripChoicesAnyOrderOneList'. -/
def fnTripChoicesAnyOrderOneListCard : Claim7 := { stood := { row := fnTripChoicesAnyOrderOneListRow, standIns := [], harness := (true, "3591f91f0c167f0600ade9064ad71f4c5e7011cacd4fcc0a892191e5fbf13995"), looks := false }, kinds := [], alts := [], laidByText := true, laidKinds := [.data, .data, .data, .mappedDeep], laidTests := true, laidLooks := .later }
def FnTripChoicesAnyOrderOneListCardSaid : Prop := Claim7.holds Tryd.pinned (.plain (OpenSpec.ofChange fnTripChoicesAnyOrderOneListSpec)) fnTripChoicesAnyOrderOneListCard

/-- THE TIED CARD OF 'zzlaws_root_b1.FnTripChoicesNamesEachRuleOnce'. -/
def fnTripChoicesNamesEachRuleOnceCard : Claim7 := { stood := { row := fnTripChoicesNamesEachRuleOnceRow, standIns := [], harness := (true, "3591f91f0c167f0600ade9064ad71f4c5e7011cacd4fcc0a892191e5fbf13995"), looks := false }, kinds := [], alts := [], laidByText := true, laidKinds := [.data, .data, .data, .mappedDeep], laidTests := true, laidLooks := .later }
def FnTripChoicesNamesEachRuleOnceCardSaid : Prop := Claim7.holds Tryd.pinned (.plain (OpenSpec.ofChange fnTripChoicesNamesEachRuleOnceSpec)) fnTripChoicesNamesEachRuleOnceCard
end Rows
end Go.Proofs.Qxb6612870aDoor
