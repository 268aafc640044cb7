import Derived.Test.Qxb6615076aRows
import Derived.WalkKit
import Derived.ProofKit
import Derived.OpenShut
import Derived.Test.Qxb6615076aBlocks
import Derived.Test.Qxb6615076aWhole
namespace Go.Proofs.Qxb6615076a
open Go.ChangeShapes Go.WideShapes Go.ChangeAt Go.RowKit

/-! The plain law. -/
theorem cover_exact (a b : Int) (h1 : 1 ≤ b) (hr : a % b = 0) : (a + b - 1) / b = a / b ∧ a / b * b = a := by
  have e : b * (a / b) + a % b = a := Int.mul_ediv_add_emod a b
  have e2 : a / b * b = a := by rw [Int.mul_comm]; omega
  refine ⟨?_, e2⟩
  have : a + b - 1 = (b - 1) + b * (a / b) := by rw [Int.mul_comm]; omega
  rw [this, Int.add_mul_ediv_left _ _ (by omega), Int.ediv_eq_zero_of_lt (by omega) (by omega)]
  omega

theorem cover_more (a b : Int) (h1 : 1 ≤ b) (hr : ¬ a % b = 0) : (a + b - 1) / b = a / b + 1 ∧ a / b * b + 1 ≤ a ∧ a < a / b * b + b := by
  have e : b * (a / b) + a % b = a := Int.mul_ediv_add_emod a b
  have m0 : 0 ≤ a % b := Int.emod_nonneg _ (by omega)
  have m1 : a % b < b := Int.emod_lt_of_pos _ (by omega)
  have e2 : a / b * b = b * (a / b) := Int.mul_comm _ _
  refine ⟨?_, by omega, by omega⟩
  have : a + b - 1 = (a % b - 1) + b * (a / b + 1) := by rw [Int.mul_add]; omega
  rw [this, Int.add_mul_ediv_left _ _ (by omega), Int.ediv_eq_zero_of_lt (by omega) (by omega)]
  omega

theorem div_bound (a b : Int) (h0 : 0 ≤ a) (h1 : 1 ≤ b) : 0 ≤ a / b ∧ a / b ≤ a := by
  exact ⟨Int.ediv_nonneg h0 (by omega), Int.ediv_le_self _ h0⟩

theorem grown_drewN {W w' : World} (h : Grown W w') (n : Nat) : Grown W (w'.drewN n) := h

set_option maxHeartbeats 400000 in
theorem tail_walk (a0 : Int) (a1 : Int) (l0 : -9223372036854775808 ≤ a0) (u0 : a0 ≤ 9223372036854775807) (l1 : -9223372036854775808 ≤ a1) (u1 : a1 ≤ 9223372036854775807) (w : World) :
    Calls Try.prog 4 #[.int .i64 a0, .int .i64 a1] w fun e w' => e = .returned (.bool true) ∧ Grown w w' := by
  by_cases c0 : a0 < 0
  · go_enter Try.func4, Try.ntmps4
    go_wp2
    go_ret
    exact ⟨rfl, by repeat (first | exact Grown.refl _ | apply Grown.drew | apply Grown.alloc)⟩
  by_cases c1 : a1 < 1
  · go_enter Try.func4, Try.ntmps4
    go_wp2
    go_ret
    exact ⟨rfl, by repeat (first | exact Grown.refl _ | apply Grown.drew | apply Grown.alloc)⟩
  by_cases c2 : 9223372036854775807 - a1 + 1 < a0
  · go_enter Try.func4, Try.ntmps4
    go_wp2
    go_ret
    exact ⟨rfl, by repeat (first | exact Grown.refl _ | apply Grown.drew | apply Grown.alloc)⟩
  have c3 : ¬ 9223372036854775807 < a0 := by omega
  have hd := div_bound a0 a1 (by omega) (by omega)
  by_cases hr : a0 % a1 = 0
  · have hx := cover_exact a0 a1 (by omega) hr
    generalize hq : a0 / a1 = q at hx hd
    generalize hB : (a0 + a1 - 1) / a1 = B at hx
    obtain ⟨rfl, hm⟩ := hx
    have HQ : Hid (a0 / a1 = B) := hq
    have HB : Hid ((a0 + a1 - 1) / a1 = B) := hB
    clear hq hB hr
    have hm2 : (B * a1 == a0) = true := by rw [hm]; simp
    have hm3 : B * a1 ≤ 9223372036854775807 := by omega
    have hm4 : 0 ≤ B * a1 := by omega
    clear hm
    go_enter Try.func4, Try.ntmps4
    go_wp2_with fail
    refine (zzblocks_any a0 a1 _ (by omega) (by omega) (by omega) (by omega)).mono ?_
    rintro e w' ⟨rfl, rfl⟩
    rw [HB.out]
    go_wp2_with fail
    refine (zzwhole_any _ a0 a1 _ (by omega) (by omega) (by omega) (by omega) (by simp [go_sem]) (by simp [go_sem])).mono ?_
    rintro e w' ⟨rfl, n, rfl⟩
    rw [HQ.out]
    go_wp2
    go_ret
    exact ⟨rfl, grown_drewN ((Grown.refl _).alloc _ _) _⟩
  · have hx := cover_more a0 a1 (by omega) hr
    generalize hq : a0 / a1 = q at hx hd
    generalize hB : (a0 + a1 - 1) / a1 = B at hx
    obtain ⟨rfl, hm, hn⟩ := hx
    have HQ : Hid (a0 / a1 = q) := hq
    have HB : Hid ((a0 + a1 - 1) / a1 = q + 1) := hB
    clear hq hB hr
    have hm1 : (q + 1 == q) = false := by simp; omega
    have hm4 : decide (a0 - q * a1 < a1) = true := by simp; omega
    have hm2 : 0 ≤ q * a1 := Int.mul_nonneg (by omega) (by omega)
    go_enter Try.func4, Try.ntmps4
    go_wp2_with fail
    refine (zzblocks_any a0 a1 _ (by omega) (by omega) (by omega) (by omega)).mono ?_
    rintro e w' ⟨rfl, rfl⟩
    rw [HB.out]
    go_wp2_with fail
    refine (zzwhole_any _ a0 a1 _ (by omega) (by omega) (by omega) (by omega) (by simp [go_sem]) (by simp [go_sem])).mono ?_
    rintro e w' ⟨rfl, n, rfl⟩
    rw [HQ.out]
    go_wp2
    go_ret
    exact ⟨rfl, grown_drewN ((Grown.refl _).alloc _ _) _⟩
end Go.Proofs.Qxb6615076a
