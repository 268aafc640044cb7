import Derived.Test.Qxb6608999aRow20
import Derived.ChangeKeysEq
namespace Go.Proofs.Qxb6608999a
open Go.ChangeShapes Go.WideShapes Go.ChangeAt Go.RowKit
set_option linter.unusedVariables false

theorem run_part_vec (w : World) (x : Nat → Int) (k : Nat) (hk : k < 20) : (part 5 (vec x) k).run Try.prog w = .ok (.int .u8 (x k)) w := by
  have hagg : (isAgg 5).run Try.prog w = .ok false w := by
    unfold isAgg
    rw [Sem.run_bind, run_underlying Try.underlying5 w]
    rfl
  unfold part
  rw [Sem.run_bind, hagg]
  simp [vec_get x k hk]

theorem run_eqItems_vec (w : World) (x y : Nat → Int) : ∀ is : List Nat, (∀ k ∈ is, k < 20) → (Op.eqItems 9999 5 1 (vec x) (vec y) is).run Try.prog w = .ok (is.all fun k => x k == y k) w
  | [], _ => by simp [Op.eqItems]
  | i :: is, h => by
    have hi := h i (by simp)
    have ih := run_eqItems_vec w x y is (fun k hk => h k (by simp [hk]))
    unfold Op.eqItems
    simp only [Nat.mul_one, Sem.run_bind, run_part_vec w x i hi, run_part_vec w y i hi, Result.andThen_ok, run_equalIn_int w 9998 5 .u8 .u8 _ _ Try.underlying5]
    by_cases e : x i = y i
    · simp [e, ih]
    · simp [e]

theorem run_equal_vec32 (w : World) (x y : Nat → Int) : (Op.equalIn 10000 32 (.agg (vec x)) (.agg (vec y))).run Try.prog w = .ok ((List.range 20).all fun k => x k == y k) w := by
  obtain ⟨i, hi⟩ : ∃ i, Try.prog.info? 5 = some i := Option.isSome_iff_exists.1 (by kernel_rfl)
  rw [show (10000 : Nat) = 9999 + 1 from rfl, run_equalIn_array w 9999 (vec x) (vec y) Try.underlying32 hi]
  have e : Try.prog.cellsOf 5 = 1 := by kernel_rfl
  rw [e]
  exact run_eqItems_vec w x y _ (fun k hk => List.mem_range.1 hk)
theorem run_equal_vec31 (w : World) (x y : Nat → Int) : (Op.equalIn 10000 31 (.agg (vec x)) (.agg (vec y))).run Try.prog w = .ok ((List.range 20).all fun k => x k == y k) w := by
  obtain ⟨i, hi⟩ : ∃ i, Try.prog.info? 5 = some i := Option.isSome_iff_exists.1 (by kernel_rfl)
  rw [show (10000 : Nat) = 9999 + 1 from rfl, run_equalIn_array w 9999 (vec x) (vec y) Try.underlying31 hi]
  have e : Try.prog.cellsOf 5 = 1 := by kernel_rfl
  rw [e]
  exact run_eqItems_vec w x y _ (fun k hk => List.mem_range.1 hk)
theorem all_of_val {x y : Nat → Int} (hx : Bytes x) (hy : Bytes y) (h : valN x 20 = valN y 20) : ((List.range 20).all fun k => x k == y k) = true := by
  rw [List.all_eq_true]
  intro k hk
  have := valN_inj hx hy 20 h k (List.mem_range.1 hk)
  simp [this]
theorem all_of_ne {x y : Nat → Int} (h : valN x 20 ≠ valN y 20) : ((List.range 20).all fun k => x k == y k) = false := by
  rw [← Bool.not_eq_true, List.all_eq_true]
  intro h2
  apply h
  exact valN_congr 20 (fun k hk => by have := h2 k (List.mem_range.2 hk); simpa using this)
end Go.Proofs.Qxb6608999a
