import Derived.RowKit
/-! Numbers of 160 bits as twenty bytes, without Go. -/
namespace Go.Proofs.Qxb6608999a

/-- The number that the first n bytes tell, the first the weightiest. -/
def valN (x : Nat → Int) : Nat → Int
  | 0 => 0
  | n + 1 => valN x n * 256 + x n

def Bytes (x : Nat → Int) : Prop := ∀ k, 0 ≤ x k ∧ x k ≤ 255

theorem valN_bounds {x : Nat → Int} (hx : Bytes x) : ∀ n, 0 ≤ valN x n ∧ valN x n < 256 ^ n
  | 0 => by simp [valN]
  | n + 1 => by
    have ih := valN_bounds hx n
    have h := hx n
    have e : (256 : Int) ^ (n + 1) = 256 ^ n * 256 := Int.pow_succ ..
    rw [e]; unfold valN
    generalize (256 : Int) ^ n = p at *
    omega

theorem valN_inj {x y : Nat → Int} (hx : Bytes x) (hy : Bytes y) : ∀ n, valN x n = valN y n → ∀ k, k < n → x k = y k
  | 0, _, k, hk => by omega
  | n + 1, h, k, hk => by
    unfold valN at h
    have h1 := hx n
    have h2 := hy n
    have h3 : x n = y n := by omega
    by_cases e : k = n
    · rw [e]; exact h3
    · exact valN_inj hx hy n (by omega) k (by omega)

theorem valN_congr {x y : Nat → Int} : ∀ n, (∀ k, k < n → x k = y k) → valN x n = valN y n
  | 0, _ => rfl
  | n + 1, h => by
    unfold valN
    rw [valN_congr n (fun k hk => h k (by omega)), h n (by omega)]

theorem valN_zero : ∀ n, valN (fun _ => 0) n = 0
  | 0 => rfl
  | n + 1 => by unfold valN; rw [valN_zero n]; rfl

/-- One byte turned. -/
theorem valN_upd (x : Nat → Int) (b : Nat) (v : Int) : ∀ n, b < n → valN (fun k => if k = b then v else x k) n = valN x n + (v - x b) * 256 ^ (n - 1 - b)
  | 0, h => by omega
  | n + 1, h => by
    unfold valN
    by_cases e : b = n
    · subst e
      rw [valN_congr (x := fun k => if k = b then v else x k) (y := x) b (fun k hk => by simp; omega)]
      simp; omega
    · have ih := valN_upd x b v n (by omega)
      have e2 : n + 1 - 1 - b = (n - 1 - b) + 1 := by omega
      rw [ih, e2, Int.pow_succ]
      have e3 : ¬ n = b := fun x => e x.symm
      rw [if_neg e3, ← Int.mul_assoc]
      generalize (v - x b) * (256 : Int) ^ (n - 1 - b) = q
      omega

theorem bytes_upd {x : Nat → Int} (hx : Bytes x) (b : Nat) (v : Int) (h0 : 0 ≤ v) (h1 : v ≤ 255) : Bytes (fun k => if k = b then v else x k) := by
  intro k
  by_cases e : k = b
  · simp [e, h0, h1]
  · simp [e]; exact hx k

theorem bytes_zero : Bytes (fun _ => 0) := fun _ => show (0 : Int) ≤ 0 ∧ (0 : Int) ≤ 255 by omega

/-- 2^160 -/
def M : Int := 256 ^ 20
theorem M_pos : 0 < M := Int.pow_pos (by decide)
theorem val_lt {x : Nat → Int} (hx : Bytes x) : 0 ≤ valN x 20 ∧ valN x 20 < M := valN_bounds hx 20

theorem pow8 (q r : Nat) : (2 : Int) ^ (8 * q + r) = 2 ^ r * 256 ^ q := by
  rw [Int.pow_add, Int.pow_mul, Int.mul_comm]
  rfl

theorem pow_split (i : Nat) : (2 : Int) ^ i = 2 ^ (i % 8) * 256 ^ (i / 8) := by
  rw [← pow8, Nat.div_add_mod]

theorem pow_small (i : Nat) (h : i < 160) : 0 < (2 : Int) ^ i ∧ (2 : Int) ^ i < M := by
  refine ⟨Int.pow_pos (by decide), ?_⟩
  have e : M = (2 : Int) ^ 160 := by unfold M; rw [show (256 : Int) = 2 ^ 8 from rfl, ← Int.pow_mul]
  rw [e]
  exact Int.pow_lt_pow_of_lt (by decide) h

theorem pow_large (i : Nat) (h : 160 ≤ i) : (2 : Int) ^ i % M = 0 := by
  have e : M = (2 : Int) ^ 160 := by unfold M; rw [show (256 : Int) = 2 ^ 8 from rfl, ← Int.pow_mul]
  rw [e, show i = 160 + (i - 160) by omega, Int.pow_add]
  exact Int.mul_emod_right _ _

end Go.Proofs.Qxb6608999a
