/-
  zzWalkAll (func 7), zzSameNode (func 8).
-/
import Derived.Test.Qxb6613185aWk
import Derived.LaidEql
namespace Go.Proofs.Qxb6613185a
open Go.RowKit
set_option linter.unusedVariables false
theorem eql_same {T e : Nat} (hp : Try.prog.underlying T = some (.pointer e)) (hc : (Try.prog.info? T).map (·.comparable) = some true) (he : (Try.prog.info? e).isSome = true) (a : Addr) (w : World) :
    (Go.binOp .eql 25 (.iface T (.pointer (some a))) (.iface T (.pointer (some a)))).run Try.prog w = .ok (.bool true) w := by
  obtain ⟨i, hi, hci⟩ := Option.map_eq_some_iff.1 hc
  obtain ⟨j, hj⟩ := Option.isSome_iff_exists.1 he
  exact run_eql_iface_ptr_same w a Try.underlying25 hp hi hci hj

theorem eq42 : ∀ (a : Addr) (w : World), (Go.binOp .eql 25 (.iface 42 (.pointer (some a))) (.iface 42 (.pointer (some a)))).run Try.prog w = .ok (.bool true) w := eql_same u42 (by kernel_rfl) (by kernel_rfl)
theorem eq32 : ∀ (a : Addr) (w : World), (Go.binOp .eql 25 (.iface 32 (.pointer (some a))) (.iface 32 (.pointer (some a)))).run Try.prog w = .ok (.bool true) w := eql_same u32 (by kernel_rfl) (by kernel_rfl)
theorem eq45 : ∀ (a : Addr) (w : World), (Go.binOp .eql 25 (.iface 45 (.pointer (some a))) (.iface 45 (.pointer (some a)))).run Try.prog w = .ok (.bool true) w := eql_same u45 (by kernel_rfl) (by kernel_rfl)
theorem eq48 : ∀ (a : Addr) (w : World), (Go.binOp .eql 25 (.iface 48 (.pointer (some a))) (.iface 48 (.pointer (some a)))).run Try.prog w = .ok (.bool true) w := eql_same u48 (by kernel_rfl) (by kernel_rfl)
theorem eq51 : ∀ (a : Addr) (w : World), (Go.binOp .eql 25 (.iface 51 (.pointer (some a))) (.iface 51 (.pointer (some a)))).run Try.prog w = .ok (.bool true) w := eql_same u51 (by kernel_rfl) (by kernel_rfl)
theorem eq54 : ∀ (a : Addr) (w : World), (Go.binOp .eql 25 (.iface 54 (.pointer (some a))) (.iface 54 (.pointer (some a)))).run Try.prog w = .ok (.bool true) w := eql_same u54 (by kernel_rfl) (by kernel_rfl)
theorem eq58 : ∀ (a : Addr) (w : World), (Go.binOp .eql 25 (.iface 58 (.pointer (some a))) (.iface 58 (.pointer (some a)))).run Try.prog w = .ok (.bool true) w := eql_same u58 (by kernel_rfl) (by kernel_rfl)

theorem Spell.kids {w : World} {C : Nat → Prop} : ∀ {out s : List Value}, Spell w C out s → ∀ y ∈ out, ∃ ks, Kids w C y ks
  | [], _, _, _, hy => by cases hy
  | y :: out, s, ⟨s', ks, h1, h2, h3, h4, h5⟩, z, hz => by
    rcases List.mem_cons.1 hz with rfl | hz
    · exact ⟨ks, h3⟩
    · exact Spell.kids h5 z hz

/-- zzSameNode on one and the same expression. -/
theorem same_any {w0 : World} {C : Nat → Prop} {ks : List Value} (x : Value) (hx : Kids w0 C x ks) (w : World) : Calls Try.prog 8 #[x, x] w fun e w' => e = .returned (.bool true) ∧ w' = w := by
  rcases hx with ⟨rfl, _⟩ | ⟨b, _, rfl, _⟩ | ⟨b, _, _, rfl, _⟩ | ⟨b, _, _, _, rfl, _⟩ | ⟨b, _, _, _, rfl, _⟩ | ⟨b, _, rfl, _⟩ | ⟨b, _, rfl, _⟩ | ⟨b, _, _, rfl, _⟩
  · go_enter Try.func8, Try.ntmps8
    go_wp2_with fail
    go_ret
    exact ⟨rfl, rfl⟩
  · have h := eq42
    unfold nd
    go_enter Try.func8, Try.ntmps8
    go_wp2_with fail
    go_ret
    exact ⟨rfl, rfl⟩
  · have h := eq32
    unfold nd
    go_enter Try.func8, Try.ntmps8
    go_wp2_with fail
    go_ret
    exact ⟨rfl, rfl⟩
  · have h := eq45
    unfold nd
    go_enter Try.func8, Try.ntmps8
    go_wp2_with fail
    go_ret
    exact ⟨rfl, rfl⟩
  · have h := eq48
    unfold nd
    go_enter Try.func8, Try.ntmps8
    go_wp2_with fail
    go_ret
    exact ⟨rfl, rfl⟩
  · have h := eq51
    unfold nd
    go_enter Try.func8, Try.ntmps8
    go_wp2_with fail
    go_ret
    exact ⟨rfl, rfl⟩
  · have h := eq54
    unfold nd
    go_enter Try.func8, Try.ntmps8
    go_wp2_with fail
    go_ret
    exact ⟨rfl, rfl⟩
  · have h := eq58
    unfold nd
    go_enter Try.func8, Try.ntmps8
    go_wp2_with fail
    go_ret
    exact ⟨rfl, rfl⟩

set_option maxHeartbeats 1000000 in
/-- zzWalkAll: what Walk hands to visit, till the stop. -/
theorem all_any (x : Value) (hx : IsE x) (stop : Int) (L : List Value) (hL : L.length ≤ 3000000) (w : World) (hsp : Spell w (· < w.heap.size) L [x]) :
    Calls Try.prog 7 #[x, .int .i64 stop] w fun e w' => ∃ a c, e = .returned (.slice a (cutAt stop L).length c) ∧ Hid (w'.ownsRow w.heap.size 25 1 (.slice a (cutAt stop L).length c) (cutAt stop L).length (cutAt stop L)) ∧ Hid (Below w.heap.size w w') := by
  have HSP := hid hsp
  clear hsp
  go_enter Try.func7, Try.ntmps7
  go_wp2_with fail
  have hs0 : ((w.alloc (.cells #[.int .i64 stop] 3)).alloc (.cells #[.slice none 0 0] 26)).heap[w.heap.size]? = some (.cells #[.int .i64 stop] 3 (0, 0)) := (Below.heap_alloc _ _ _ (by simp)).trans (heap_alloc_new _ _)
  have hg0 : ((w.alloc (.cells #[.int .i64 stop] 3)).alloc (.cells #[.slice none 0 0] 26)).heap[w.heap.size + 1]? = some (.cells #[.slice none 0 0] 26 (0, 0)) := by
    have e : w.heap.size + 1 = (w.alloc (.cells #[.int .i64 stop] 3)).heap.size := by simp
    rw [e]
    exact heap_alloc_new _ _
  refine (walk_any w.heap.size x hx (w.heap.size + 1) w.heap.size stop L hL w _ (((Below.refl _ w).alloc (Nat.le_refl _) _).alloc (by simp) _) (by simp; omega) hg0 hs0 (by omega) (by omega) HSP.out).mono ?_
  rintro e w' ⟨a, c, rfl, HB, HBe, hsz⟩
  have hc : w'.cell? ⟨w.heap.size + 1, 0, none⟩ = some (.slice a (cutAt stop L).length c) := by simp [World.cell?, HB.out.box]
  clear hs0 hg0
  go_wp2_with fail
  go_ret
  exact ⟨a, c, rfl, HB.out.row, HBe.out⟩
end Go.Proofs.Qxb6613185a
