import Derived.Test.Qxb6615076aRows
import Derived.WalkKit
import Derived.ProofKit
namespace Go.Proofs.Qxb6615076a
open Go.ChangeShapes Go.WideShapes Go.ChangeAt Go.RowKit

theorem wrapBlk (a b : Int) (h0 : 0 ≤ a) (h1 : 1 ≤ b) (h2 : a + b - 1 ≤ 9223372036854775807) (h3 : b ≤ 9223372036854775807) :
    wrap64 (wrap64 (a + b) - 1) = a + b - 1 := by
  unfold wrap64; omega

set_option maxHeartbeats 400000 in
theorem blocks_any (a b : Int) (w : World) (h0 : 0 ≤ a) (h1 : 1 ≤ b) (h2 : a + b - 1 ≤ 9223372036854775807) (h3 : b ≤ 9223372036854775807) :
    Calls Try.prog 24 #[.int .i64 a, .int .i64 b] w fun e w' => e = .returned (.int .i64 ((a + b - 1) / b)) ∧ w' = w := by
  have hw := wrapBlk a b h0 h1 h2 h3
  go_enter Try.func24, Try.ntmps24
  go_wp2
  go_ret
  exact ⟨rfl, rfl⟩

set_option maxHeartbeats 400000 in
theorem zzblocks_any (a b : Int) (w : World) (h0 : 0 ≤ a) (h1 : 1 ≤ b) (h2 : a + b - 1 ≤ 9223372036854775807) (h3 : b ≤ 9223372036854775807) :
    Calls Try.prog 8 #[.int .i64 a, .int .i64 b] w fun e w' => e = .returned (.int .i64 ((a + b - 1) / b)) ∧ w' = w := by
  go_enter Try.func8, Try.ntmps8
  go_wp2_with fail
  refine (blocks_any a b _ h0 h1 h2 h3).mono ?_
  rintro e w' ⟨rfl, rfl⟩
  go_wp2
  go_ret
  exact ⟨rfl, rfl⟩
end Go.Proofs.Qxb6615076a
