import Derived.Test.Qxb6608999aCmp
import Derived.Deep.RegionWith
namespace Go.Proofs.Qxb6608999a
open Go.ChangeShapes Go.WideShapes Go.ChangeAt Go.RowKit
set_option linter.unusedVariables false

theorem compare_is {w : World} {b c : Nat} {t u : TypeId} {x y : Nat → Int} {s : Int} (R : Row20 w b t x) (S : Row20 w c u y) (hx : Hid (Bytes x)) (hy : Hid (Bytes y)) (hs : Hid (sgn (valN x 20) (valN y 20) = s)) :
    Calls Try.prog 24 #[.slice (some ⟨b, 0, none⟩) 20 20, .slice (some ⟨c, 0, none⟩) 20 20] w fun e w' => e = .returned (.int .i64 s) ∧ w' = w := by
  have h := compare_any R S hx.out hy.out
  rw [hs.out] at h
  exact h

set_option maxRecDepth 100000 in
set_option maxHeartbeats 1000000 in
theorem within_true (x a b : Nat → Int) (w : World) (s1 s2 s3 : Int) (hx : Hid (Bytes x)) (ha : Hid (Bytes a)) (hb : Hid (Bytes b))
    (e1 : Hid (sgn (valN x 20) (valN a 20) = s1)) (e2 : Hid (sgn (valN x 20) (valN b 20) = s2)) (e3 : Hid (sgn (valN a 20) (valN b 20) = s3))
    (h : (s1 = 1 ∧ s2 = -1 ∧ s3 = -1) ∨ (s1 = 1 ∧ s2 = 1 ∧ s3 = 1) ∨ (s1 = -1 ∧ s2 = -1 ∧ s3 = 1)) :
    Calls Try.prog 21 #[.agg (vec x), .agg (vec a), .agg (vec b)] w fun e w' => e = .returned (.bool true) ∧ Below w.heap.size w w' := by
  have R3 : Row20 (((w.alloc (.cells (vec x) 32)).alloc (.cells (vec a) 32)).alloc (.cells (vec b) 32)) w.heap.size 32 x := ((Row20.new w x 32).alloc _).alloc _
  have R4 : Row20 (((w.alloc (.cells (vec x) 32)).alloc (.cells (vec a) 32)).alloc (.cells (vec b) 32)) (w.heap.size + 1) 32 a := by
    have := (Row20.new (w.alloc (.cells (vec x) 32)) a 32).alloc (.cells (vec b) 32)
    simpa using this
  have R5 : Row20 (((w.alloc (.cells (vec x) 32)).alloc (.cells (vec a) 32)).alloc (.cells (vec b) 32)) (w.heap.size + 1 + 1) 32 b := by
    have := Row20.new ((w.alloc (.cells (vec x) 32)).alloc (.cells (vec a) 32)) b 32
    simpa using this
  have B0 : Below w.heap.size w (((w.alloc (.cells (vec x) 32)).alloc (.cells (vec a) 32)).alloc (.cells (vec b) 32)) :=
    (((Below.refl _ _).alloc (Nat.le_refl _) _).alloc (by simp) _).alloc (by simp; omega) _
  rcases h with ⟨rfl, rfl, rfl⟩ | ⟨rfl, rfl, rfl⟩ | ⟨rfl, rfl, rfl⟩
  all_goals
    go_enter Try.func21, Try.ntmps21
    go_wp2
    generalize (((w.alloc (.cells (vec x) 32)).alloc (.cells (vec a) 32)).alloc (.cells (vec b) 32)) = w1 at R3 R4 R5 B0 ⊢
    go_region_with (go_at_call 24; refine Calls.mono (compare_is (R3 : Row20 w1.drew w.heap.size 32 x) (R4 : Row20 w1.drew (w.heap.size + 1) 32 a) hx ha e1) ?_; rintro e w2 ⟨rfl, rfl⟩)
    go_wp2
    go_region_with (go_at_call 24; refine Calls.mono (compare_is (R3 : Row20 w1.drew.drew w.heap.size 32 x) (R5 : Row20 w1.drew.drew (w.heap.size + 1 + 1) 32 b) hx hb e2) ?_; rintro e w2 ⟨rfl, rfl⟩)
    go_wp2
    go_region_with (go_at_call 24; refine Calls.mono (compare_is (R4 : Row20 w1.drew.drew.drew (w.heap.size + 1) 32 a) (R5 : Row20 w1.drew.drew.drew (w.heap.size + 1 + 1) 32 b) ha hb e3) ?_; rintro e w2 ⟨rfl, rfl⟩)
    go_wp2
    go_ret
    exact ⟨rfl, B0.drew.drew.drew⟩

theorem hid_load32 {w : World} {g : Nat} {z : Nat → Int} (h : Row20 w g 32 z) : w.heap[g]? = some (.cells (vec z) 32 (0, 0)) := h
end Go.Proofs.Qxb6608999a
