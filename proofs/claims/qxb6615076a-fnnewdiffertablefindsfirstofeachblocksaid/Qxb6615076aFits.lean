import Derived.Test.Qxb6615076aRows
import Derived.WalkKit
import Derived.ProofKit
import Derived.WalkSpells
import Derived.Deep.OwnRows
import Derived.WalkSmall
namespace Go.Proofs.Qxb6615076a
open Go.ChangeShapes Go.WideShapes Go.ChangeAt Go.RowKit
set_option linter.unusedVariables false

/-- What zzSigFits lets by. -/
def Fits (bs sz ss : Int) (L : Nat) : Prop := 1 ≤ bs ∧ bs ≤ 65536 ∧ 0 ≤ sz ∧ 0 ≤ ss ∧ ss ≤ 32 ∧ sz / bs ≤ 65536 ∧ sz / bs * (4 + ss) ≤ L ∧ (L = 0 → sz / bs = 0)

def FitsPost (bs sz ss : Int) (L : Nat) (w : World) (e : Ending) (w' : World) : Prop := ∃ b : Bool, e = .returned (.bool b) ∧ (b = true → Fits bs sz ss L) ∧ w' = w

theorem fits_exact (bs sz ss : Int) (L : Nat) (h1 : 1 ≤ bs) (h2 : bs ≤ 65536) (h3 : 0 ≤ sz) (h4 : 0 ≤ ss) (h5 : ss ≤ 32) (h6 : sz / bs ≤ 65536) (h : (L : Int) = sz / bs * (4 + ss)) : Fits bs sz ss L := by
  refine ⟨h1, h2, h3, h4, h5, h6, by omega, fun hL => ?_⟩
  subst hL
  have : sz / bs * (4 + ss) = 0 := by omega
  rcases Int.mul_eq_zero.1 this with h | h <;> omega

theorem fits_more (bs sz ss : Int) (L : Nat) (h1 : 1 ≤ bs) (h2 : bs ≤ 65536) (h3 : 0 ≤ sz) (h4 : 0 ≤ ss) (h5 : ss ≤ 32) (h6 : sz / bs + 1 ≤ 65536) (h : (L : Int) = (sz / bs + 1) * (4 + ss)) : Fits bs sz ss L := by
  have hd : 0 ≤ sz / bs := Int.ediv_nonneg h3 (by omega)
  refine ⟨h1, h2, h3, h4, h5, by omega, ?_, fun hL => ?_⟩
  · rw [h, Int.add_mul]; omega
  · subst hL
    have : (sz / bs + 1) * (4 + ss) = 0 := by omega
    rcases Int.mul_eq_zero.1 this with h | h <;> omega

theorem prod_le (x ss : Int) (h0 : 0 ≤ x) (h1 : x ≤ 65536) (h2 : 0 ≤ ss) (h3 : ss ≤ 32) : 0 ≤ x * (4 + ss) ∧ x * (4 + ss) ≤ 2359296 :=
  ⟨Int.mul_nonneg h0 (by omega), Int.le_trans (Int.mul_le_mul h1 (by omega : 4 + ss ≤ 36) (by omega) (by omega)) (by decide)⟩

set_option maxHeartbeats 1000000 in
theorem fits_any (bs sz ss : Int) (a : Option Addr) (L c : Nat) (w : World) (hb0 : -9223372036854775808 ≤ bs) (hb1 : bs ≤ 9223372036854775807) (hz1 : sz ≤ 9223372036854775807) (hs0 : -9223372036854775808 ≤ ss) (hs1 : ss ≤ 9223372036854775807) (hL : L ≤ 65536) :
    Calls Try.prog 11 #[.int .i64 bs, .int .i64 sz, .int .i64 ss, .slice a L c] w (FitsPost bs sz ss L w) := by
  by_cases c1 : bs < 1
  · go_enter Try.func11, Try.ntmps11
    go_wp2
    go_ret
    exact ⟨false, rfl, fun h => (by cases h), rfl⟩
  by_cases c2 : 65536 < bs
  · go_enter Try.func11, Try.ntmps11
    go_wp2
    go_ret
    exact ⟨false, rfl, fun h => (by cases h), rfl⟩
  by_cases c3 : sz < 0
  · go_enter Try.func11, Try.ntmps11
    go_wp2
    go_ret
    exact ⟨false, rfl, fun h => (by cases h), rfl⟩
  by_cases c4 : ss < 0
  · go_enter Try.func11, Try.ntmps11
    go_wp2
    go_ret
    exact ⟨false, rfl, fun h => (by cases h), rfl⟩
  by_cases c5 : 32 < ss
  · go_enter Try.func11, Try.ntmps11
    go_wp2
    go_ret
    exact ⟨false, rfl, fun h => (by cases h), rfl⟩
  have hd0 : 0 ≤ sz / bs := Int.ediv_nonneg (by omega) (by omega)
  have hd1 : sz / bs ≤ sz := Int.ediv_le_self _ (by omega)
  have F1 := fits_exact bs sz ss L (by omega) (by omega) (by omega) (by omega) (by omega)
  have F2 := fits_more bs sz ss L (by omega) (by omega) (by omega) (by omega) (by omega)
  have HF1 : Hid (sz / bs ≤ 65536 → (L : Int) = sz / bs * (4 + ss) → Fits bs sz ss L) := F1
  have HF2 : Hid (sz / bs + 1 ≤ 65536 → (L : Int) = (sz / bs + 1) * (4 + ss) → Fits bs sz ss L) := F2
  clear F1 F2
  by_cases c6 : sz % bs = 0
  · by_cases c7 : 65536 < sz / bs
    · have c6' : (sz % bs != 0) = false := by simp [c6]
      clear c6
      go_enter Try.func11, Try.ntmps11
      go_wp2
      go_ret
      exact ⟨false, rfl, fun h => (by cases h), rfl⟩
    · have c6' : (sz % bs != 0) = false := by simp [c6]
      have hp := prod_le (sz / bs) ss hd0 (by omega) (by omega) (by omega)
      clear c6
      go_enter Try.func11, Try.ntmps11
      go_wp2
      go_ret
      exact ⟨_, rfl, fun h => HF1.out (by omega) (by simpa using h), rfl⟩
  · by_cases c7 : 65536 < sz / bs + 1
    · have c6' : (sz % bs != 0) = true := by simp [c6]
      have hd2 : sz / bs < 9223372036854775807 := by
        rcases Int.lt_or_le (sz / bs) 9223372036854775807 with h | h
        · exact h
        · exfalso
          have h1 : bs = 1 := by
            have e : bs * (sz / bs) + sz % bs = sz := Int.mul_ediv_add_emod sz bs
            have m0 : 0 ≤ sz % bs := Int.emod_nonneg _ (by omega)
            rcases Int.lt_or_le 1 bs with h2 | h2
            · have : 2 * (sz / bs) ≤ bs * (sz / bs) := Int.mul_le_mul_of_nonneg_right (by omega) hd0
              omega
            · omega
          rw [h1] at c6
          simp at c6
      clear c6
      go_enter Try.func11, Try.ntmps11
      go_wp2
      go_ret
      exact ⟨false, rfl, fun h => (by cases h), rfl⟩
    · have c6' : (sz % bs != 0) = true := by simp [c6]
      have hp := prod_le (sz / bs + 1) ss (by omega) (by omega) (by omega) (by omega)
      clear c6
      go_enter Try.func11, Try.ntmps11
      go_wp2
      go_ret
      exact ⟨_, rfl, fun h => HF2.out (by omega) (by simpa using h), rfl⟩
end Go.Proofs.Qxb6615076a
