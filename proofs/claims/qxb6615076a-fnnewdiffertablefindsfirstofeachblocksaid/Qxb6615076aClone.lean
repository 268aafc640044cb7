import Derived.Test.Qxb6615076aRows
import Derived.WalkKit
import Derived.ProofKit
import Derived.WalkSpells
import Derived.Deep.OwnRows
import Derived.WalkSmall
namespace Go.Proofs.Qxb6615076a
open Go.ChangeShapes Go.WideShapes Go.ChangeAt Go.RowKit
set_option linter.unusedVariables false

theorem Try.info5c : (Try.prog.info? 5).map (fun i => (i.zero, i.size, i.bytes)) = some (some (.int .u8 0), 1, 1) := by kernel_rfl

set_option maxHeartbeats 400000 in
theorem clone_nil (w : World) : Calls Try.prog 12 #[.slice none 0 0] w fun e w' => e = .returned (.slice none 0 0) ∧ w' = w := by
  have q27 : ∀ (w : World) (a : Option Addr) (n c n' c' : Nat), (binOp .eql 27 (.slice a n c) (.slice none n' c')).run Try.prog w = .ok (.bool a.isNone) w := fun w a n c n' c' => Lib.run_eql_slice_nil w _ _ a n c n' c' Try.underlying27
  go_enter Try.func12, Try.ntmps12
  go_wp2
  go_ret
  exact ⟨rfl, rfl⟩

set_option maxHeartbeats 400000 in
theorem clone_empty (a : Addr) (c : Nat) (w : World) : Calls Try.prog 12 #[.slice (some a) 0 c] w fun e w' => e = .returned (.slice (some ⟨w.heap.size, 0, none⟩) 0 0) ∧ Below w.heap.size w w' := by
  have q27 : ∀ (w : World) (a : Option Addr) (n c n' c' : Nat), (binOp .eql 27 (.slice a n c) (.slice none n' c')).run Try.prog w = .ok (.bool a.isNone) w := fun w a n c n' c' => Lib.run_eql_slice_nil w _ _ a n c n' c' Try.underlying27
  have hmk : ∀ w : World, (Instr.makeSlice 27 (.int .i64 0) (.int .i64 0)).run Try.prog w = .ok (.slice (some ⟨w.heap.size, 0, none⟩) 0 0) (w.alloc (.cells (madeCells #[.int .u8 0] 0) 5)) := run_make_row' (P := Try.prog) 27 5 (.int .u8 0) 1 Try.underlying27 Try.info5c rfl .i64 .i64 0 (by omega) (by omega)
  go_enter Try.func12, Try.ntmps12
  go_wp2
  refine wp_loop_rounds 1 ?_
  rw [rounds_succ]
  go_wp2
  go_ret
  exact ⟨rfl, (Below.refl _ _).alloc (Nat.le_refl _) _⟩

set_option maxHeartbeats 400000 in
theorem clone_some (b off L c : Nat) (d : Nat → Int) (w : World) (hL : L ≤ 65536) (hb : b < w.heap.size) (hc : ∀ i, i < L → w.cell? ⟨b, off + i, none⟩ = some (.int .u8 (d i))) :
    Calls Try.prog 12 #[.slice (some ⟨b, off, none⟩) L c] w fun e w' => e = .returned (.slice (some ⟨w.heap.size, 0, none⟩) L L) ∧ Below w.heap.size w w' ∧ w'.rowIs w.heap.size 5 L (fun i => .int .u8 (d i)) := by
  have q27 : ∀ (w : World) (a : Option Addr) (n c n' c' : Nat), (binOp .eql 27 (.slice a n c) (.slice none n' c')).run Try.prog w = .ok (.bool a.isNone) w := fun w a n c n' c' => Lib.run_eql_slice_nil w _ _ a n c n' c' Try.underlying27
  have hmk := run_make_row' (P := Try.prog) 27 5 (.int .u8 0) 1 Try.underlying27 Try.info5c rfl .i64 .i64 L (by omega) (by omega)
  have HC : Hid (∀ i, i < L → w.cell? ⟨b, off + i, none⟩ = some (.int .u8 (d i))) := hc
  clear hc
  go_enter Try.func12, Try.ntmps12
  go_wp2
  go_loopw [4] (fun i wr => ∃ k : Nat, k ≤ L ∧ i = .int .i64 k ∧ Below w.heap.size w wr ∧ wr.rowIs w.heap.size 5 L (fun i => .int .u8 (if i < k then d i else 0))) (fun i _ => L - (intOf i).toNat)
  case atStart => exact ⟨0, Nat.zero_le _, rfl, (Below.refl _ _).alloc (Nat.le_refl _) _, (World.rowIs_made w _ L 5).congr (fun i _ => by simp)⟩
  case round =>
    clear q27 hmk
    obtain ⟨k, hk, rfl, hbw, hrow⟩ := hrel
    by_cases hlt : k < L
    · have e1 : wr.cell? ⟨b, off + k, none⟩ = some (.int .u8 (d k)) := by rw [hbw.cell (p := ⟨b, off + k, none⟩) hb]; exact HC.out k hlt
      have e2 := hrow.cell hlt
      have e3 := hrow.frozen k
      simp only [Nat.lt_irrefl, if_false] at e2
      have hlt' : (k : Int) < (L : Int) := by omega
      go_wp2
      go_roundw
      case rel => exact ⟨k + 1, by omega, by go_num, hbw.setCell (Nat.le_refl _) _, (hrow.set k _).congr (fun i _ => by
          by_cases e : i = k
          · subst e; simp
          · by_cases e2 : i < k
            · have : i < k + 1 := by omega
              simp [e, e2, this]
            · have : ¬ i < k + 1 := by omega
              simp [e, e2, this])⟩
      case measure => simp [intOf]; omega
    · have hkL : k = L := by omega
      have HR : Hid (wr.rowIs w.heap.size 5 L (fun i => .int .u8 (d i))) := hrow.congr (fun i hi => by rw [if_pos (by omega)])
      clear hrow hkL
      go_wp2
      go_ret
      exact ⟨rfl, hbw, HR.out⟩
end Go.Proofs.Qxb6615076a
