import Derived.Test.Qxb6615076aRows
import Derived.WalkKit
import Derived.ProofKit
namespace Go.Proofs.Qxb6615076a
open Go.ChangeShapes Go.WideShapes Go.ChangeAt Go.RowKit
set_option linter.unusedVariables false

theorem tabA (c : Int) (b : UInt8) (h0 : 0 ≤ c) (h1 : c ≤ 56) : 0 ≤ wrap64 (c + wrap64 (b.toNat : Int)) ∧ wrap64 (c + wrap64 (b.toNat : Int)) ≤ 400 := by
  have := b.toNat_lt
  unfold wrap64; omega

theorem tabB (b : UInt8) : 0 ≤ wrap64 (wrap64 (b.toNat : Int)) ∧ wrap64 (wrap64 (b.toNat : Int)) ≤ 400 := by
  have := b.toNat_lt
  unfold wrap64; omega

set_option maxRecDepth 100000 in
set_option maxHeartbeats 400000 in
theorem len64_any (x : Int) (w : World) (h0 : 0 ≤ x) (h1 : x < 4294967296) :
    Calls Try.prog 37 #[.int .u64 x] w fun e w' => ∃ r : Int, e = .returned (.int .i64 r) ∧ 0 ≤ r ∧ r ≤ 400 ∧ w' = w := by
  go_enter Try.func37, Try.ntmps37
  go_wp2
  all_goals
    go_ret
    refine ⟨_, rfl, ?_, ?_, rfl⟩
    · first | exact (tabA _ _ (by omega) (by omega)).1 | exact (tabB _).1
    · first | exact (tabA _ _ (by omega) (by omega)).2 | exact (tabB _).2

set_option maxHeartbeats 400000 in
theorem len_any (x : Int) (w : World) (h0 : 0 ≤ x) (h1 : x < 4294967296) :
    Calls Try.prog 30 #[.int .u64 x] w fun e w' => ∃ r : Int, e = .returned (.int .i64 r) ∧ 0 ≤ r ∧ r ≤ 400 ∧ w' = w := by
  go_enter Try.func30, Try.ntmps30
  go_wp2_with fail
  refine (len64_any x _ h0 h1).mono ?_
  rintro e w' ⟨r, rfl, h2, h3, rfl⟩
  go_wp2
  go_ret
  exact ⟨_, rfl, h2, h3, rfl⟩
end Go.Proofs.Qxb6615076a
