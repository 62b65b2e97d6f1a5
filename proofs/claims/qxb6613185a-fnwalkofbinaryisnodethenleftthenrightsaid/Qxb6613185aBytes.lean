/-
  zzBytes (funcs 5 and 9): each answers a bool and writes nothing.
-/
import Derived.Test.Qxb6613185aMem
namespace Go.Proofs.Qxb6613185a
open Go.RowKit
set_option linter.unusedVariables false

def SomeBool (e : Ending) : Prop := ∃ b : Bool, e = .returned (.bool b)

theorem bytes5 (a1 : Option Addr) (n1 c1 : Nat) (a2 : Option Addr) (n2 c2 : Nat) (i : Int) (h1 : n1 ≤ maxLen) (h2 : n2 ≤ maxLen) (w : World) :
    Calls Try.prog 5 #[.slice a1 n1 c1, .slice a2 n2 c2, .int .i64 i] w fun e w' => SomeBool e ∧ w' = w := by
  unfold maxLen at h1 h2
  by_cases k1 : 1048576 < n1
  · have k1' : (1048576 : Int) < (n1 : Int) := by omega
    go_enter Try.func5, Try.ntmps5
    go_wp2
    go_ret
    exact ⟨⟨_, rfl⟩, rfl⟩
  · have k1' : ¬ (1048576 : Int) < (n1 : Int) := by omega
    by_cases k2 : 1048576 < n2
    · have k2' : (1048576 : Int) < (n2 : Int) := by omega
      go_enter Try.func5, Try.ntmps5
      go_wp2
      go_ret
      exact ⟨⟨_, rfl⟩, rfl⟩
    · have k2' : ¬ (1048576 : Int) < (n2 : Int) := by omega
      by_cases k3 : 1048576 < n1 + n2
      · have k3' : (1048576 : Int) < (n1 : Int) + (n2 : Int) := by omega
        go_enter Try.func5, Try.ntmps5
        go_wp2
        go_ret
        exact ⟨⟨_, rfl⟩, rfl⟩
      · have k3' : ¬ (1048576 : Int) < (n1 : Int) + (n2 : Int) := by omega
        go_enter Try.func5, Try.ntmps5
        go_wp2
        go_ret
        exact ⟨⟨_, rfl⟩, rfl⟩

theorem bytes9 (a1 : Option Addr) (n1 c1 : Nat) (a2 : Option Addr) (n2 c2 : Nat) (a3 : Option Addr) (n3 c3 : Nat) (a4 : Option Addr) (n4 c4 : Nat) (h1 : n1 ≤ maxLen) (h2 : n2 ≤ maxLen) (h3 : n3 ≤ maxLen) (h4 : n4 ≤ maxLen) (w : World) :
    Calls Try.prog 9 #[.slice a1 n1 c1, .slice a2 n2 c2, .slice a3 n3 c3, .slice a4 n4 c4] w fun e w' => SomeBool e ∧ w' = w := by
  unfold maxLen at h1 h2 h3 h4
  by_cases k1 : (1048576 : Int) < (n1 : Int)
  · go_enter Try.func9, Try.ntmps9
    go_wp2
    go_ret
    exact ⟨⟨_, rfl⟩, rfl⟩
  by_cases k2 : (1048576 : Int) < (n2 : Int)
  · go_enter Try.func9, Try.ntmps9
    go_wp2
    go_ret
    exact ⟨⟨_, rfl⟩, rfl⟩
  by_cases j2 : (1048576 : Int) < (n1 : Int) + (n2 : Int)
  · go_enter Try.func9, Try.ntmps9
    go_wp2
    go_ret
    exact ⟨⟨_, rfl⟩, rfl⟩
  by_cases k3 : (1048576 : Int) < (n3 : Int)
  · go_enter Try.func9, Try.ntmps9
    go_wp2
    go_ret
    exact ⟨⟨_, rfl⟩, rfl⟩
  by_cases j3 : (1048576 : Int) < (n1 : Int) + (n2 : Int) + (n3 : Int)
  · go_enter Try.func9, Try.ntmps9
    go_wp2
    go_ret
    exact ⟨⟨_, rfl⟩, rfl⟩
  by_cases k4 : (1048576 : Int) < (n4 : Int)
  · go_enter Try.func9, Try.ntmps9
    go_wp2
    go_ret
    exact ⟨⟨_, rfl⟩, rfl⟩
  by_cases j4 : (1048576 : Int) < (n1 : Int) + (n2 : Int) + (n3 : Int) + (n4 : Int)
  · go_enter Try.func9, Try.ntmps9
    go_wp2
    go_ret
    exact ⟨⟨_, rfl⟩, rfl⟩
  · go_enter Try.func9, Try.ntmps9
    go_wp2
    go_ret
    exact ⟨⟨_, rfl⟩, rfl⟩
end Go.Proofs.Qxb6613185a
