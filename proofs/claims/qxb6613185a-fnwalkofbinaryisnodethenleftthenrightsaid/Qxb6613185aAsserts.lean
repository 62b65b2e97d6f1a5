/-
  THE TYPE SWITCH's ASSERTIONS: each of the seven node types, against a node, against nil.
-/
import Derived.Test.Qxb6613185aWks
namespace Go.Proofs.Qxb6613185a
open Go.RowKit
set_option linter.unusedVariables false

theorem ta_hit {U e : Nat} (hu : Try.prog.underlying U = some (.pointer e)) (v : Value) (w : World) : (Instr.typeAssert (.iface U v) 25 U true).run Try.prog w = .ok (.tuple #[v, .bool true]) w := by
  simp [Instr.typeAssert, run_underlying hu]

theorem ta_miss {U e : Nat} {j : TypeInfo} (hu : Try.prog.underlying U = some (.pointer e)) (hj : Try.prog.info? U = some j) (hz : j.zero = some (.pointer none)) (T : Nat) (hT : T ≠ U) (v : Value) (w : World) : (Instr.typeAssert (.iface T v) 25 U true).run Try.prog w = .ok (.tuple #[.pointer none, .bool false]) w := by
  simp [Instr.typeAssert, run_underlying hu, hT, zeroValue, typeInfo, hj, hz]

theorem ta_nil {U e : Nat} {j : TypeInfo} (hu : Try.prog.underlying U = some (.pointer e)) (hj : Try.prog.info? U = some j) (hz : j.zero = some (.pointer none)) (w : World) : (Instr.typeAssert .nilIface 25 U true).run Try.prog w = .ok (.tuple #[.pointer none, .bool false]) w := by
  simp [Instr.typeAssert, run_underlying hu, zeroValue, typeInfo, hj, hz]

theorem u42 : Try.prog.underlying 42 = some (.pointer 44) := by kernel_rfl
theorem z42 : (Try.prog.info? 42).bind (·.zero) = some (.pointer none) := by kernel_rfl
theorem hit42 : ∀ (v : Value) (w : World), (Instr.typeAssert (.iface 42 v) 25 42 true).run Try.prog w = .ok (.tuple #[v, .bool true]) w := ta_hit u42
theorem miss42 (T : Nat) (h : T ≠ 42) : ∀ (v : Value) (w : World), (Instr.typeAssert (.iface T v) 25 42 true).run Try.prog w = .ok (.tuple #[.pointer none, .bool false]) w := by
  obtain ⟨j, h1, h2⟩ := Option.bind_eq_some_iff.1 z42
  exact ta_miss u42 h1 h2 T h
theorem nil42 : ∀ (w : World), (Instr.typeAssert .nilIface 25 42 true).run Try.prog w = .ok (.tuple #[.pointer none, .bool false]) w := by
  obtain ⟨j, h1, h2⟩ := Option.bind_eq_some_iff.1 z42
  exact ta_nil u42 h1 h2
theorem u32 : Try.prog.underlying 32 = some (.pointer 35) := by kernel_rfl
theorem z32 : (Try.prog.info? 32).bind (·.zero) = some (.pointer none) := by kernel_rfl
theorem hit32 : ∀ (v : Value) (w : World), (Instr.typeAssert (.iface 32 v) 25 32 true).run Try.prog w = .ok (.tuple #[v, .bool true]) w := ta_hit u32
theorem miss32 (T : Nat) (h : T ≠ 32) : ∀ (v : Value) (w : World), (Instr.typeAssert (.iface T v) 25 32 true).run Try.prog w = .ok (.tuple #[.pointer none, .bool false]) w := by
  obtain ⟨j, h1, h2⟩ := Option.bind_eq_some_iff.1 z32
  exact ta_miss u32 h1 h2 T h
theorem nil32 : ∀ (w : World), (Instr.typeAssert .nilIface 25 32 true).run Try.prog w = .ok (.tuple #[.pointer none, .bool false]) w := by
  obtain ⟨j, h1, h2⟩ := Option.bind_eq_some_iff.1 z32
  exact ta_nil u32 h1 h2
theorem u45 : Try.prog.underlying 45 = some (.pointer 47) := by kernel_rfl
theorem z45 : (Try.prog.info? 45).bind (·.zero) = some (.pointer none) := by kernel_rfl
theorem hit45 : ∀ (v : Value) (w : World), (Instr.typeAssert (.iface 45 v) 25 45 true).run Try.prog w = .ok (.tuple #[v, .bool true]) w := ta_hit u45
theorem miss45 (T : Nat) (h : T ≠ 45) : ∀ (v : Value) (w : World), (Instr.typeAssert (.iface T v) 25 45 true).run Try.prog w = .ok (.tuple #[.pointer none, .bool false]) w := by
  obtain ⟨j, h1, h2⟩ := Option.bind_eq_some_iff.1 z45
  exact ta_miss u45 h1 h2 T h
theorem nil45 : ∀ (w : World), (Instr.typeAssert .nilIface 25 45 true).run Try.prog w = .ok (.tuple #[.pointer none, .bool false]) w := by
  obtain ⟨j, h1, h2⟩ := Option.bind_eq_some_iff.1 z45
  exact ta_nil u45 h1 h2
theorem u48 : Try.prog.underlying 48 = some (.pointer 50) := by kernel_rfl
theorem z48 : (Try.prog.info? 48).bind (·.zero) = some (.pointer none) := by kernel_rfl
theorem hit48 : ∀ (v : Value) (w : World), (Instr.typeAssert (.iface 48 v) 25 48 true).run Try.prog w = .ok (.tuple #[v, .bool true]) w := ta_hit u48
theorem miss48 (T : Nat) (h : T ≠ 48) : ∀ (v : Value) (w : World), (Instr.typeAssert (.iface T v) 25 48 true).run Try.prog w = .ok (.tuple #[.pointer none, .bool false]) w := by
  obtain ⟨j, h1, h2⟩ := Option.bind_eq_some_iff.1 z48
  exact ta_miss u48 h1 h2 T h
theorem nil48 : ∀ (w : World), (Instr.typeAssert .nilIface 25 48 true).run Try.prog w = .ok (.tuple #[.pointer none, .bool false]) w := by
  obtain ⟨j, h1, h2⟩ := Option.bind_eq_some_iff.1 z48
  exact ta_nil u48 h1 h2
theorem u51 : Try.prog.underlying 51 = some (.pointer 53) := by kernel_rfl
theorem z51 : (Try.prog.info? 51).bind (·.zero) = some (.pointer none) := by kernel_rfl
theorem hit51 : ∀ (v : Value) (w : World), (Instr.typeAssert (.iface 51 v) 25 51 true).run Try.prog w = .ok (.tuple #[v, .bool true]) w := ta_hit u51
theorem miss51 (T : Nat) (h : T ≠ 51) : ∀ (v : Value) (w : World), (Instr.typeAssert (.iface T v) 25 51 true).run Try.prog w = .ok (.tuple #[.pointer none, .bool false]) w := by
  obtain ⟨j, h1, h2⟩ := Option.bind_eq_some_iff.1 z51
  exact ta_miss u51 h1 h2 T h
theorem nil51 : ∀ (w : World), (Instr.typeAssert .nilIface 25 51 true).run Try.prog w = .ok (.tuple #[.pointer none, .bool false]) w := by
  obtain ⟨j, h1, h2⟩ := Option.bind_eq_some_iff.1 z51
  exact ta_nil u51 h1 h2
theorem u54 : Try.prog.underlying 54 = some (.pointer 57) := by kernel_rfl
theorem z54 : (Try.prog.info? 54).bind (·.zero) = some (.pointer none) := by kernel_rfl
theorem hit54 : ∀ (v : Value) (w : World), (Instr.typeAssert (.iface 54 v) 25 54 true).run Try.prog w = .ok (.tuple #[v, .bool true]) w := ta_hit u54
theorem miss54 (T : Nat) (h : T ≠ 54) : ∀ (v : Value) (w : World), (Instr.typeAssert (.iface T v) 25 54 true).run Try.prog w = .ok (.tuple #[.pointer none, .bool false]) w := by
  obtain ⟨j, h1, h2⟩ := Option.bind_eq_some_iff.1 z54
  exact ta_miss u54 h1 h2 T h
theorem nil54 : ∀ (w : World), (Instr.typeAssert .nilIface 25 54 true).run Try.prog w = .ok (.tuple #[.pointer none, .bool false]) w := by
  obtain ⟨j, h1, h2⟩ := Option.bind_eq_some_iff.1 z54
  exact ta_nil u54 h1 h2
theorem u58 : Try.prog.underlying 58 = some (.pointer 61) := by kernel_rfl
theorem z58 : (Try.prog.info? 58).bind (·.zero) = some (.pointer none) := by kernel_rfl
theorem hit58 : ∀ (v : Value) (w : World), (Instr.typeAssert (.iface 58 v) 25 58 true).run Try.prog w = .ok (.tuple #[v, .bool true]) w := ta_hit u58
theorem miss58 (T : Nat) (h : T ≠ 58) : ∀ (v : Value) (w : World), (Instr.typeAssert (.iface T v) 25 58 true).run Try.prog w = .ok (.tuple #[.pointer none, .bool false]) w := by
  obtain ⟨j, h1, h2⟩ := Option.bind_eq_some_iff.1 z58
  exact ta_miss u58 h1 h2 T h
theorem nil58 : ∀ (w : World), (Instr.typeAssert .nilIface 25 58 true).run Try.prog w = .ok (.tuple #[.pointer none, .bool false]) w := by
  obtain ⟨j, h1, h2⟩ := Option.bind_eq_some_iff.1 z58
  exact ta_nil u58 h1 h2

theorem Two.drew {B : Nat} {w0 w : World} {P G S : Nat} {stop : Int} {pa ga : Option Addr} {pc gc : Nat} {st got : List Value} (h : Two B w0 w P G S stop pa pc st ga gc got) : Two B w0 w.drew P G S stop pa pc st ga gc got := h.drewN 1

/-- push, its operands in a new row, behind a draw. -/
theorem push_new {B : Nat} {w0 w : World} {P G S : Nat} {stop : Int} {pa ga : Option Addr} {pc gc : Nat} {st got : List Value} (h : Two B w0 w P G S stop pa pc st ga gc got) (us : List Value) (k : Nat) (hk : us.length = k) (hE : ∀ x ∈ us, IsE x) (hn : st.length + k ≤ 4000000) :
    Calls Try.prog 13 #[.slice (some ⟨w.heap.size, 0, none⟩) k k, .pointer (some ⟨P, 0, none⟩)] (w.alloc (.cells us.toArray 25)).drew fun e w' => ∃ pa' pc', e = .returned (.tuple #[]) ∧ Hid (Two B w0 w' P G S stop pa' pc' (st ++ us.reverse) ga gc got) := by
  refine (push_any B P pa pc st (some ⟨w.heap.size, 0, none⟩) k k us hk hE _ (h.alloc _).drew.p (h.alloc _).drew.le (h.newrow us.toArray 25) hn).mono ?_
  rintro e w' ⟨pa', pc', rfl, HB2, HF2⟩
  exact ⟨pa', pc', rfl, (h.alloc _).drew.pushed HF2.out HB2.out⟩
end Go.Proofs.Qxb6613185a
