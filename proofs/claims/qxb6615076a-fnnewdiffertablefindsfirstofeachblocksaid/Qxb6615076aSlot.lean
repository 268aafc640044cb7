import Derived.Test.Qxb6615076aRows
import Derived.WalkKit
import Derived.ProofKit
import Derived.Deep.QuietTactic
import Derived.BigQuiet
namespace Go.Proofs.Qxb6615076a
open Go.ChangeShapes Go.WideShapes Go.ChangeAt Go.RowKit
set_option linter.unusedVariables false

set_option maxHeartbeats 400000 in
theorem slot_any (p : Nat) (sh : Nat) (x : Int) (w : World) (h0 : 0 ≤ x) (h1 : x ≤ 4294967295) (hs : sh ≤ 31)
    (hc0 : w.cell? ⟨p, 0, none⟩ = some (.int .u64 sh)) :
    Calls Try.prog 31 #[.pointer (some ⟨p, 0, none⟩), .int .u32 x] w fun e w' => e = .returned (.int .u32 (x * 2246822507 % 4294967296 / 2 ^ sh)) ∧ w' = w := by
  go_enter Try.func31, Try.ntmps31
  go_wp2
  go_ret
  exact ⟨rfl, rfl⟩

set_option maxHeartbeats 400000 in
theorem first_any (p q : Nat) (sh : Nat) (N : Nat) (x : Int) (v : Int) (w : World) (h0 : 0 ≤ x) (h1 : x ≤ 4294967295) (hs : sh ≤ 31)
    (hi : x * 2246822507 % 4294967296 / 2 ^ sh < N) (hi0 : 0 ≤ x * 2246822507 % 4294967296 / 2 ^ sh) (hv : -2147483648 ≤ v) (hv2 : v ≤ 2147483647)
    (hc0 : w.cell? ⟨p, 0, none⟩ = some (.int .u64 sh)) (hc1 : w.cell? ⟨p, 1, none⟩ = some (.slice (some ⟨q, 0, none⟩) N N))
    (hcv : w.cell? ⟨q, (x * 2246822507 % 4294967296 / 2 ^ sh).toNat, none⟩ = some (.int .i32 v)) :
    Calls Try.prog 29 #[.pointer (some ⟨p, 0, none⟩), .int .u32 x] w fun e w' => e = .returned (.int .i64 (v - 1)) ∧ ∃ n, w' = w.drewN n := by
  go_enter Try.func29, Try.ntmps29
  go_wp2
  go_quiet ((go_at_call 31; exact Calls.quiet_of_same (slot_any p sh x _ h0 h1 hs hc0)))
  go_wp2
  go_ret
  exact ⟨rfl, _, rfl⟩
end Go.Proofs.Qxb6615076a
