import Derived.Test.Qxb6615076aRows
import Derived.WalkKit
import Derived.ProofKit
import Derived.Deep.QuietTactic
import Derived.BigQuiet
import Derived.Lib.QuietBelow
import Derived.WalkSmall
import Derived.Lib.EndianBits
namespace Go.Proofs.Qxb6615076a
open Go.ChangeShapes Go.WideShapes Go.ChangeAt Go.RowKit Go.Sort
set_option linter.unusedVariables false

theorem wrap_small (m : Nat) (h : m ≤ 9223372036854775807) : wrap64 ((m : Nat) : Int) = (m : Int) := by unfold wrap64; omega

theorem box_below (w : World) (o : Obj) (n : Nat) : Below w.heap.size w ((w.alloc o).drewN n) := below_drewN ((Below.refl _ _).alloc (Nat.le_refl _) _) _

theorem or4 (b0 b1 b2 b3 : Int) (k0 : 0 ≤ b0 ∧ b0 ≤ 255) (k1 : 0 ≤ b1 ∧ b1 ≤ 255) (k2 : 0 ≤ b2 ∧ b2 ≤ 255) (k3 : 0 ≤ b3 ∧ b3 ≤ 255) :
    bits BinOp.or IntKind.u32 (bits BinOp.or IntKind.u32 (bits BinOp.or IntKind.u32 b3 (b2 * 256)) (b1 * 65536)) (b0 * 16777216) = b0 * 16777216 + b1 * 65536 + b2 * 256 + b3 := by
  rw [u32_or8 b3 (b2 * 256) (by omega) (by omega) (by omega) (by omega) (by omega), u32_or16 (b3 + b2 * 256) (b1 * 65536) (by omega) (by omega) (by omega) (by omega) (by omega), u32_or24 (b3 + b2 * 256 + b1 * 65536) (b0 * 16777216) (by omega) (by omega) (by omega) (by omega) (by omega)]
  omega

set_option maxHeartbeats 400000 in
theorem uint32_any (q o : Nat) (n c : Nat) (b0 b1 b2 b3 : Int) (w : World) (h4 : 4 ≤ n) (hq : q < w.heap.size)
    (k0 : 0 ≤ b0 ∧ b0 ≤ 255) (k1 : 0 ≤ b1 ∧ b1 ≤ 255) (k2 : 0 ≤ b2 ∧ b2 ≤ 255) (k3 : 0 ≤ b3 ∧ b3 ≤ 255)
    (c0 : w.cell? ⟨q, o, none⟩ = some (.int .u8 b0)) (c1 : w.cell? ⟨q, o + 1, none⟩ = some (.int .u8 b1)) (c2 : w.cell? ⟨q, o + 2, none⟩ = some (.int .u8 b2)) (c3 : w.cell? ⟨q, o + 3, none⟩ = some (.int .u8 b3)) :
    Calls Try.prog 38 #[.agg #[], .slice (some ⟨q, o, none⟩) n c] w fun e w' => e = .returned (.int .u32 (b0 * 16777216 + b1 * 65536 + b2 * 256 + b3)) ∧ Below w.heap.size w w' := by
  have H := or4 b0 b1 b2 b3 k0 k1 k2 k3
  have HH : Hid (bits BinOp.or IntKind.u32 (bits BinOp.or IntKind.u32 (bits BinOp.or IntKind.u32 b3 (b2 * 256)) (b1 * 65536)) (b0 * 16777216) = b0 * 16777216 + b1 * 65536 + b2 * 256 + b3) := H
  clear H
  go_enter Try.func38, Try.ntmps38
  go_wp2
  go_quiet (fail)
  go_wp2
  go_ret
  exact ⟨congrArg (fun z => Ending.returned (.int .u32 z)) HH.out, box_below w _ _⟩

end Go.Proofs.Qxb6615076a
