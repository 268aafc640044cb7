import Derived.Test.Qxb6608999aWithin
import Derived.Test.Qxb6608999aEq
import Derived.Deep.Cut
namespace Go.Proofs.Qxb6608999a
open Go.ChangeShapes Go.WideShapes Go.ChangeAt Go.RowKit
set_option linter.unusedVariables false

set_option maxRecDepth 100000 in
set_option maxHeartbeats 1000000 in
theorem between_true (x a b : Nat → Int) (w : World) (s1 s2 s3 : Int) (hx : Hid (Bytes x)) (ha : Hid (Bytes a)) (hb : Hid (Bytes b))
    (e1 : Hid (sgn (valN x 20) (valN a 20) = s1)) (e2 : Hid (sgn (valN x 20) (valN b 20) = s2)) (e3 : Hid (sgn (valN a 20) (valN b 20) = s3))
    (h : Hid ((s1 = 1 ∧ s2 = -1 ∧ s3 = -1) ∨ (s1 = 1 ∧ s2 = 1 ∧ s3 = 1) ∨ (s1 = -1 ∧ s2 = -1 ∧ s3 = 1))) (hne : Hid (valN x 20 ≠ valN b 20)) :
    Calls Try.prog 16 #[.agg (vec x), .agg (vec a), .agg (vec b)] w fun e w' => e = .returned (.bool true) ∧ Below w.heap.size w w' := by
  have R3 : Row20 (((w.alloc (.cells (vec x) 32)).alloc (.cells (vec a) 32)).alloc (.cells (vec b) 32)) w.heap.size 32 x := ((Row20.new w x 32).alloc _).alloc _
  have R4 : Row20 (((w.alloc (.cells (vec x) 32)).alloc (.cells (vec a) 32)).alloc (.cells (vec b) 32)) (w.heap.size + 1) 32 a := by
    have := (Row20.new (w.alloc (.cells (vec x) 32)) a 32).alloc (.cells (vec b) 32)
    simpa using this
  have R5 : Row20 (((w.alloc (.cells (vec x) 32)).alloc (.cells (vec a) 32)).alloc (.cells (vec b) 32)) (w.heap.size + 1 + 1) 32 b := by
    have := Row20.new ((w.alloc (.cells (vec x) 32)).alloc (.cells (vec a) 32)) b 32
    simpa using this
  have B0 : Below w.heap.size w (((w.alloc (.cells (vec x) 32)).alloc (.cells (vec a) 32)).alloc (.cells (vec b) 32)) :=
    (((Below.refl _ _).alloc (Nat.le_refl _) _).alloc (by simp) _).alloc (by simp; omega) _
  go_enter Try.func16, Try.ntmps16
  go_upto_region 1 with fail
  generalize (((w.alloc (.cells (vec x) 32)).alloc (.cells (vec a) 32)).alloc (.cells (vec b) 32)) = w1 at R3 R4 R5 B0 ⊢
  go_wp2_with (first
    | (refine wpList_load_row rfl 32 _ rfl w.heap.size rfl 32 (vec x) (0, 0) _ R3 Try.underlying32 rfl (hi32 x) ?_)
    | (refine wpList_load_row rfl 32 _ rfl (w.heap.size + 1 + 1) rfl 32 (vec b) (0, 0) _ R5 Try.underlying32 rfl (hi32 b) ?_))
  rw [run_equal_vec32, all_of_ne hne.out]
  simp only [Result.andThen_ok]
  go_wp2_with (first
    | (refine wpList_step (fun K hK => ?_); rw [if_pos (by rfl)]; refine wp_load_row 32 _ rfl w.heap.size rfl 32 (vec x) (0, 0) _ R3 Try.underlying32 rfl (hi32 x) (hK _ _ ?_); clear hK K)
    | (refine wpList_step (fun K hK => ?_); rw [if_pos (by rfl)]; refine wp_load_row 32 _ rfl (w.heap.size + 1) rfl 32 (vec a) (0, 0) _ R4 Try.underlying32 rfl (hi32 a) (hK _ _ ?_); clear hK K)
    | (refine wpList_step (fun K hK => ?_); rw [if_pos (by rfl)]; refine wp_load_row 32 _ rfl (w.heap.size + 1 + 1) rfl 32 (vec b) (0, 0) _ R5 Try.underlying32 rfl (hi32 b) (hK _ _ ?_); clear hK K)
    | (go_at_call 21; refine Calls.mono (within_true x a b _ s1 s2 s3 hx ha hb e1 e2 e3 h.out) ?_; rintro e w2 ⟨rfl, hb2⟩))
  go_ret
  exact ⟨rfl, B0.trans (hb2.mono B0.size)⟩
end Go.Proofs.Qxb6608999a
