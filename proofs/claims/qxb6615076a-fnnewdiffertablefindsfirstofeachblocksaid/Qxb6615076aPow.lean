import Derived.Test.Qxb6615076aDiffer
import Derived.WalkSmall
namespace Go.Proofs.Qxb6615076a
open Go.ChangeShapes Go.WideShapes Go.ChangeAt Go.RowKit
set_option linter.unusedVariables false

theorem powW_eq : ∀ k, powW k = ((2654435761 ^ k % 4294967296 : Nat) : Int)
  | 0 => by simp [powW]
  | k + 1 => by
    unfold powW
    rw [powW_eq k, Nat.pow_succ]
    have : (2654435761 ^ k * 2654435761) % 4294967296 = (2654435761 ^ k % 4294967296) * 2654435761 % 4294967296 := by
      rw [Nat.mul_mod, Nat.mod_mul_mod]
    rw [this]
    omega

theorem sq_even (r b e : Nat) (h : e % 2 = 0) : r * (b * b % 4294967296) ^ (e / 2) % 4294967296 = r * b ^ e % 4294967296 := by
  have he : e = 2 * (e / 2) := by omega
  have h2 : b ^ e = (b * b) ^ (e / 2) := by
    rw [show b * b = b ^ 2 from by rw [Nat.pow_two], ← Nat.pow_mul, ← he]
  rw [h2, Nat.mul_mod, ← Nat.pow_mod, ← Nat.mul_mod]

theorem sq_odd (r b e : Nat) (h : e % 2 = 1) : (r * b % 4294967296) * (b * b % 4294967296) ^ (e / 2) % 4294967296 = r * b ^ e % 4294967296 := by
  have he : e = 2 * (e / 2) + 1 := by omega
  have h2 : b ^ e = b * (b * b) ^ (e / 2) := by
    rw [show b * b = b ^ 2 from by rw [Nat.pow_two], ← Nat.pow_mul, Nat.mul_comm, ← Nat.pow_succ, Nat.succ_eq_add_one, ← he]
  rw [h2, Nat.mul_mod, ← Nat.pow_mod, Nat.mod_mod, ← Nat.mul_mod, Nat.mul_assoc]

theorem cast_mulmod (a b : Nat) : ((a * b % 4294967296 : Nat) : Int) = (a : Int) * (b : Int) % 4294967296 := by
  rw [Int.natCast_emod, Int.natCast_mul]; rfl
theorem cast_half (e : Nat) : ((e / 2 : Nat) : Int) = (e : Int) / 2 := by norm_cast

set_option maxHeartbeats 400000 in
theorem powSq_any (e0 : Nat) (w : World) (h : e0 ≤ 65536) :
    Calls Try.prog 20 #[.int .u32 2654435761, .int .u64 e0] w fun x w' => x = .returned (.int .u32 (powW e0)) ∧ w' = w := by
  go_enter Try.func20, Try.ntmps20
  go_wp2
  go_loop [0, 1, 5] (fun b e r => ∃ bb ee rr : Nat, b = .int .u32 bb ∧ e = .int .u64 ee ∧ r = .int .u32 rr ∧ bb < 4294967296 ∧ rr < 4294967296 ∧ ee ≤ 65536 ∧ Hid (rr * bb ^ ee % 4294967296 = 2654435761 ^ e0 % 4294967296)) (fun _ e _ => (intOf e).toNat)
  case atStart => exact ⟨2654435761, e0, 1, rfl, rfl, rfl, by decide, by decide, h, by show _ = _; rw [Nat.one_mul]⟩
  case round =>
    obtain ⟨bb, ee, rr, rfl, rfl, rfl, h1, h2, h3, H⟩ := hrel
    by_cases hz : 0 < ee
    · have hand := and_one_u64 (ee : Int) (by omega) (by omega)
      have HA : Hid (bits BinOp.and IntKind.u64 (ee : Int) 1 = (ee : Int) % 2) := hand
      clear hand
      go_wp2
      · have hb : (bits BinOp.and IntKind.u64 (ee : Int) 1 == 1) = true := by assumption
        rw [HA.out, beq_iff_eq] at hb
        go_round
        case rel => exact ⟨bb * bb % 4294967296, ee / 2, rr * bb % 4294967296, by rw [← cast_mulmod], by rw [← cast_half], by rw [← cast_mulmod], Nat.mod_lt _ (by decide), Nat.mod_lt _ (by decide), by omega, by rw [← H.out]; exact sq_odd rr bb ee (by omega)⟩
        case measure => simp [intOf]; omega
      · have hb : (bits BinOp.and IntKind.u64 (ee : Int) 1 == 1) = false := by assumption
        rw [HA.out, beq_eq_false_iff_ne] at hb
        go_round
        case rel => exact ⟨bb * bb % 4294967296, ee / 2, rr, by rw [← cast_mulmod], by rw [← cast_half], rfl, Nat.mod_lt _ (by decide), h2, by omega, by rw [← H.out]; exact sq_even rr bb ee (by omega)⟩
        case measure => simp [intOf]; omega
    · obtain rfl : ee = 0 := by omega
      have hp : ((rr : Nat) : Int) = powW e0 := by
        have := H.out
        rw [Nat.pow_zero, Nat.mul_one, Nat.mod_eq_of_lt h2] at this
        rw [powW_eq, this]
      have HP : Hid (((rr : Nat) : Int) = powW e0) := hp
      clear hp
      go_wp2
      go_ret
      exact ⟨congrArg (fun z => Ending.returned (.int .u32 z)) HP.out, rfl⟩
end Go.Proofs.Qxb6615076a
