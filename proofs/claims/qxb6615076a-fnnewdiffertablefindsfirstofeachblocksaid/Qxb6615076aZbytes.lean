import Derived.Test.Qxb6615076aRows
import Derived.WalkKit
import Derived.ProofKit
import Derived.WalkSmall
namespace Go.Proofs.Qxb6615076a
open Go.ChangeShapes Go.WideShapes Go.ChangeAt Go.RowKit
set_option linter.unusedVariables false

set_option maxHeartbeats 400000 in
theorem bytes18 (v0 v1 v3 : Value) (ks : Array Value) (a : Option Addr) (L c : Nat) (w : World) (h : L ≤ 1048576) :
    Calls Try.prog 18 #[v0, v1, .agg ks, v3, .slice a L c] w fun e w' => e = .returned (.bool true) ∧ Below w.heap.size w w' := by
  go_enter Try.func18, Try.ntmps18
  go_wp2
  go_ret
  exact ⟨rfl, (Below.refl _ _).alloc (Nat.le_refl _) _⟩

set_option maxHeartbeats 400000 in
theorem bytes18_no (v0 v1 v3 : Value) (ks : Array Value) (a : Option Addr) (L c : Nat) (w : World) (h : 1048576 < L) (h2 : L ≤ 9223372036854775807) :
    Calls Try.prog 18 #[v0, v1, .agg ks, v3, .slice a L c] w fun e w' => e = .returned (.bool false) ∧ Below w.heap.size w w' := by
  go_enter Try.func18, Try.ntmps18
  go_wp2
  go_ret
  exact ⟨rfl, (Below.refl _ _).alloc (Nat.le_refl _) _⟩

set_option maxHeartbeats 400000 in
theorem bytes10 (v0 v1 v3 : Value) (ks : Array Value) (a : Option Addr) (L c : Nat) (w : World) (h : L ≤ 1048576) :
    Calls Try.prog 10 #[v0, v1, .agg ks, v3, .slice a L c] w fun e w' => e = .returned (.bool true) ∧ Below w.heap.size w w' := by
  go_enter Try.func10, Try.ntmps10
  go_wp2
  go_ret
  exact ⟨rfl, (Below.refl _ _).alloc (Nat.le_refl _) _⟩

set_option maxHeartbeats 400000 in
theorem bytes10_no (v0 v1 v3 : Value) (ks : Array Value) (a : Option Addr) (L c : Nat) (w : World) (h : 1048576 < L) (h2 : L ≤ 9223372036854775807) :
    Calls Try.prog 10 #[v0, v1, .agg ks, v3, .slice a L c] w fun e w' => e = .returned (.bool false) ∧ Below w.heap.size w w' := by
  go_enter Try.func10, Try.ntmps10
  go_wp2
  go_ret
  exact ⟨rfl, (Below.refl _ _).alloc (Nat.le_refl _) _⟩
end Go.Proofs.Qxb6615076a
