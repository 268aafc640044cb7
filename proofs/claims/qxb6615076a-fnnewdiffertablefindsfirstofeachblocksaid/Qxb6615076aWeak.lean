import Derived.Test.Qxb6615076aU32
import Derived.WalkKit
import Derived.ProofKit
import Derived.Deep.QuietTactic
import Derived.BigQuiet
import Derived.Lib.QuietBelow
import Derived.WalkSmall
import Derived.Lib.EndianBits
namespace Go.Proofs.Qxb6615076a
open Go.ChangeShapes Go.WideShapes Go.ChangeAt Go.RowKit Go.Sort
set_option linter.unusedVariables false

set_option maxHeartbeats 400000 in
theorem weak_any (p q : Nat) (L : Nat) (k m : Nat) (ss : Nat) (d : Nat → Int) (w : World) (hp : p < w.heap.size) (hq : q < w.heap.size) (hs : ss ≤ 32) (hk : k ≤ 65536)
    (hm : (k : Int) * (4 + (ss : Int)) = (m : Int)) (hL : m + 4 ≤ L) (hL2 : L ≤ 65536)
    (hd : ∀ i, 0 ≤ d i ∧ d i ≤ 255)
    (c18 : w.cell? ⟨p, 18, none⟩ = some (.int .i64 ss)) (c19 : w.cell? ⟨p, 19, none⟩ = some (.slice (some ⟨q, 0, none⟩) L L))
    (hc : ∀ i, i < L → w.cell? ⟨q, i, none⟩ = some (.int .u8 (d i))) :
    Calls Try.prog 32 #[.pointer (some ⟨p, 0, none⟩), .int .i64 k] w fun e w' => e = .returned (.int .u32 (d m * 16777216 + d (m + 1) * 65536 + d (m + 2) * 256 + d (m + 3))) ∧ Below w.heap.size w w' := by
  have b0 := hd m
  have b1 := hd (m + 1)
  have b2 := hd (m + 2)
  have b3 := hd (m + 3)
  have e0 := hc m (by omega)
  have e1 := hc (m + 1) (by omega)
  have e2 := hc (m + 2) (by omega)
  have e3 := hc (m + 3) (by omega)
  clear hd hc
  have f0 := cell_regrown e0
  have f1 := cell_regrown e1
  have f2 := cell_regrown e2
  have f3 := cell_regrown e3
  have f18 := cell_regrown c18
  have f19 := cell_regrown c19
  have cU : ∀ dd os, Calls Try.prog 38 #[.agg #[], .slice (some ⟨q, m, none⟩) (L - m) (L - m)] (grow (redrawn w dd) os) fun e w'' => e = .returned (.int .u32 (d m * 16777216 + d (m + 1) * 65536 + d (m + 2) * 256 + d (m + 3))) ∧ ∃ p : Regrown, w'' = grow (redrawn w p.d) p.os :=
    fun dd os => Calls.regrown_of (uint32_any q m (L - m) (L - m) (d m) (d (m + 1)) (d (m + 2)) (d (m + 3)) _ (by omega) (Nat.lt_of_lt_of_le hq (below_regrown w dd os).size) b0 b1 b2 b3 (f0 dd os) (f1 dd os) (f2 dd os) (f3 dd os))
  have hmL : (m : Int) ≤ (L : Int) := by omega
  have hmL2 : (m : Int) < (L : Int) := by omega
  clear e0 e1 e2 e3
  go_enter Try.func32, Try.ntmps32
  go_wp2
  refine wp_region_quiet_below (by kernel_rfl) (by kernel_rfl) ?_
  repeat (first | go_big_quiet_step (exact cU _ _) | quiet_step (exact cU _ _))
  refine wpQuiet_nil ?_
  intro _ hw'
  obtain ⟨⟨dq, osq⟩, hw''⟩ := hw'
  subst hw''
  go_wp2
  go_ret
  exact ⟨rfl, below_regrown w dq osq⟩
end Go.Proofs.Qxb6615076a
