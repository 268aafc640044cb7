import Derived.Test.Qxb6615076aRows
import Derived.WalkKit
import Derived.ProofKit
import Derived.Deep.QuietTactic
import Derived.BigQuiet
namespace Go.Proofs.Qxb6615076a
open Go.ChangeShapes Go.WideShapes Go.ChangeAt Go.RowKit

set_option maxHeartbeats 400000 in
theorem whole_any (p : Nat) (sz bs : Int) (w : World) (h0 : 0 ≤ sz) (h1 : 1 ≤ bs) (h2 : sz ≤ 9223372036854775807) (h3 : bs ≤ 9223372036854775807)
    (hc0 : w.cell? ⟨p, 0, none⟩ = some (.int .i64 bs)) (hc1 : w.cell? ⟨p, 1, none⟩ = some (.int .i64 sz)) :
    Calls Try.prog 25 #[.pointer (some ⟨p, 0, none⟩)] w fun e w' => e = .returned (.int .i64 (sz / bs)) ∧ ∃ n, w' = w.drewN n := by
  go_enter Try.func25, Try.ntmps25
  go_wp2
  go_quiet (fail)
  go_wp2
  go_ret
  exact ⟨rfl, _, rfl⟩

set_option maxHeartbeats 400000 in
theorem zzwhole_any (p : Nat) (sz bs : Int) (w : World) (h0 : 0 ≤ sz) (h1 : 1 ≤ bs) (h2 : sz ≤ 9223372036854775807) (h3 : bs ≤ 9223372036854775807)
    (hc0 : w.cell? ⟨p, 0, none⟩ = some (.int .i64 bs)) (hc1 : w.cell? ⟨p, 1, none⟩ = some (.int .i64 sz)) :
    Calls Try.prog 9 #[.pointer (some ⟨p, 0, none⟩)] w fun e w' => e = .returned (.int .i64 (sz / bs)) ∧ ∃ n, w' = w.drewN n := by
  go_enter Try.func9, Try.ntmps9
  go_wp2_with fail
  refine (whole_any p sz bs _ h0 h1 h2 h3 hc0 hc1).mono ?_
  rintro e w' ⟨rfl, n, rfl⟩
  go_wp2
  go_ret
  exact ⟨rfl, _, rfl⟩
end Go.Proofs.Qxb6615076a
