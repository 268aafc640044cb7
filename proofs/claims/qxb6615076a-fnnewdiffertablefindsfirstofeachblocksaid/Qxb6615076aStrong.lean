import Derived.Test.Qxb6615076aSha
import Derived.Test.Qxb6615076aState
import Derived.Deep.RegionWith
namespace Go.Proofs.Qxb6615076a
open Go.ChangeShapes Go.WideShapes Go.ChangeAt Go.RowKit
set_option linter.unusedVariables false

/-- Old cells read as before. -/
theorem bcell {W w1 : World} {B : Nat} (hb : Below B W w1) : (∀ b o, b < B → w1.cell? ⟨b, o, none⟩ = W.cell? ⟨b, o, none⟩) :=
  fun b o h => hb.cell (p := ⟨b, o, none⟩) h

theorem undrew_below {w w1 : World} (h : Below w.drew.heap.size w.drew w1) : Below w.heap.size w w1 := ⟨h.os, h.tape, h.output, h.size, h.block⟩

set_option maxRecDepth 100000 in
set_option maxHeartbeats 1000000 in
theorem strong_any (p : Nat) (ss : Int) (w : World) (hp : p < w.heap.size) (c18 : w.cell? ⟨p, 18, none⟩ = some (.int .i64 ss)) :
    Calls Try.prog 27 #[.pointer (some ⟨p, 0, none⟩)] w fun e w' => ∃ sb : Nat, e = .returned (.pointer (some ⟨sb, 0, none⟩)) ∧ Below w.heap.size w w' := by
  go_enter Try.func27, Try.ntmps27
  go_wp2
  go_region_with (go_at_call 28; refine (shaNew_any _).mono ?_; rintro e w1 ⟨rfl, hb0⟩; have hb := undrew_below hb0; clear hb0; have hbc := bcell hb)
  all_goals
    go_wp2
    go_ret
    exact ⟨_, rfl, hb.alloc hb.size _⟩
end Go.Proofs.Qxb6615076a
