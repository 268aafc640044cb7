import Derived.Test.Qxb6608999aRow20
import Derived.Deep.DeepCutAuto
namespace Go.Proofs.Qxb6608999a
open Go.ChangeShapes Go.WideShapes Go.ChangeAt Go.RowKit
set_option linter.unusedVariables false

/-- 2^k, or nothing where the ring has no such place. -/
def powK (k : Int) : Int := if 0 ≤ k ∧ k < 160 then 2 ^ k.toNat else 0

theorem powK_in (n : Nat) (h : n < 160) : powK (n : Int) = 2 ^ n := by unfold powK; rw [if_pos (by omega)]; simp
theorem powK_out (k : Int) (h : ¬ (0 ≤ k ∧ k < 160)) : powK k = 0 := by unfold powK; rw [if_neg h]

theorem pow_val (n : Nat) (h : n < 160) : valN (fun k => if k = 19 - n / 8 then 2 ^ (n % 8) else (fun _ => (0 : Int)) k) 20 = 2 ^ n := by
  rw [valN_upd (fun _ => 0) (19 - n / 8) _ 20 (by omega), valN_zero, show 20 - 1 - (19 - n / 8) = n / 8 by omega, Int.zero_add, Int.sub_zero, ← pow_split]

set_option maxRecDepth 100000 in
set_option maxHeartbeats 4000000 in
theorem pow_any (k : Int) (w : World) (h0 : -9223372036854775808 ≤ k) (h1 : k ≤ 9223372036854775807) :
    Calls Try.prog 15 #[.int .i64 k] w fun e w' => ∃ y : Nat → Int, e = .returned (.agg (vec y)) ∧ Hid (Bytes y) ∧ Hid (valN y 20 = powK k) ∧ Below w.heap.size w w' := by
  have R0 : Row20 ((w.alloc (.cells (vec fun _ => 0) 31)).alloc (.cells (vec fun _ => 0) 31)) w.heap.size 31 (fun _ => 0) := (Row20.new w _ 31).alloc _
  have R1 : Row20 ((w.alloc (.cells (vec fun _ => 0) 31)).alloc (.cells (vec fun _ => 0) 31)) (w.heap.size + 1) 31 (fun _ => 0) := by
    have := Row20.new (w.alloc (.cells (vec fun _ => 0) 31)) (fun _ => 0) 31
    simpa using this
  have B0 : Below w.heap.size w ((w.alloc (.cells (vec fun _ => 0) 31)).alloc (.cells (vec fun _ => 0) 31)) := ((Below.refl _ _).alloc (Nat.le_refl _) _).alloc (by simp) _
  by_cases hin : 0 ≤ k ∧ k < 160
  · obtain ⟨n, rfl⟩ := Int.eq_ofNat_of_zero_le hin.1
    have hn : n < 160 := by omega
    have hp := pow_mod8 n
    obtain ⟨hp0, hp1⟩ := hp
    go_enter Try.func15, Try.ntmps15
    go_upto_region 2 with fail
    go_cut [9] (fun v wc => v = .bool true ∧ Row20 wc w.heap.size 31 (fun _ => 0) ∧ Row20 wc (w.heap.size + 1) 31 (fun _ => 0) ∧ Below w.heap.size w wc)
    case first =>
      go_wp2
      go_meet
      case rel => exact ⟨rfl, R0, R1, B0⟩
    case rest =>
      clear R0 R1 B0
      obtain ⟨rfl, Rr, Rz, hbe⟩ := hcut
      have hk : 19 - n / 8 < 20 := by omega
      have ei : (19 : Int) - (n : Int) / 8 = ((19 - n / 8 : Nat) : Int) := by omega
      have cz := Rz.cell hk
      have fz := Rz.frozen (19 - n / 8)
      have Rz' := Rz.step (19 - n / 8) (2 ^ (n % 8))
      have Rr' : Row20 (wc.setCell ⟨w.heap.size + 1, 19 - n / 8, none⟩ (.int .u8 (2 ^ (n % 8)))) w.heap.size 31 (fun _ => 0) := Rr.other (by show _ ≠ w.heap.size + 1; omega) _
      have HV : Hid (valN (fun k => if k = 19 - n / 8 then 2 ^ (n % 8) else (fun _ => (0 : Int)) k) 20 = powK (n : Int)) := by show _ = _; rw [powK_in n hn]; exact pow_val n hn
      have HB : Hid (Bytes (fun k => if k = 19 - n / 8 then 2 ^ (n % 8) else (fun _ => (0 : Int)) k)) := bytes_upd bytes_zero _ _ (by omega) (by omega)
      generalize (fun k => if k = 19 - n / 8 then 2 ^ (n % 8) else (fun _ => (0 : Int)) k) = z at *
      go_wp2_with (first | (refine wpList_load_row rfl 31 _ rfl (w.heap.size + 1) rfl 31 (vec z) (0, 0) _ Rz' Try.underlying31 rfl (hi31 z) ?_) | (refine wpList_store_row rfl 31 _ _ rfl w.heap.size (vec z) rfl rfl 31 _ Rr' (hi31 z) rfl (vec_one z) ?_))
      refine bodyPost_ret (v := .agg (vec z)) (results_cell_row Try.results15 _ _ w.heap.size 31 (vec z) (0, 0) _ rfl (Rr'.set z) Try.underlying31 rfl (hi31 z)) rfl ?_
      exact ⟨z, rfl, HB, HV, below_setRow (hbe.setCell (p := ⟨w.heap.size + 1, 19 - n / 8, none⟩) (by show w.heap.size ≤ w.heap.size + 1; omega) _) (Nat.le_refl _) _⟩
  · have HV : Hid (valN (fun _ => 0) 20 = powK k) := by show _ = _; rw [powK_out k hin, valN_zero]
    have hd : (decide (0 ≤ k) && decide (k < 160)) = false := by simp; omega
    by_cases hneg : k < 0
    · go_enter Try.func15, Try.ntmps15
      go_upto_region 2 with fail
      go_cut [9] (fun v wc => v = .bool false ∧ Row20 wc w.heap.size 31 (fun _ => 0) ∧ Row20 wc (w.heap.size + 1) 31 (fun _ => 0) ∧ Below w.heap.size w wc)
      case first =>
        go_wp2
        go_meet
        case rel => exact ⟨rfl, R0, R1, B0⟩
      case rest =>
        clear R0 R1 B0
        obtain ⟨rfl, Rr, Rz, hbe⟩ := hcut
        go_wp2_with (first | (refine wpList_load_row rfl 31 _ rfl (w.heap.size + 1) rfl 31 (vec fun _ => 0) (0, 0) _ Rz Try.underlying31 rfl (hi31 _) ?_) | (refine wpList_store_row rfl 31 _ _ rfl w.heap.size (vec fun _ => 0) rfl rfl 31 _ Rr (hi31 _) rfl (vec_one _) ?_))
        refine bodyPost_ret (v := .agg (vec fun _ => 0)) (results_cell_row Try.results15 _ _ w.heap.size 31 (vec fun _ => 0) (0, 0) _ rfl (Rr.set _) Try.underlying31 rfl (hi31 _)) rfl ?_
        exact ⟨_, rfl, bytes_zero, HV, below_setRow hbe (Nat.le_refl _) _⟩
    · have hge : ¬ k < 160 := by omega
      go_enter Try.func15, Try.ntmps15
      go_upto_region 2 with fail
      go_cut [9] (fun v wc => v = .bool false ∧ Row20 wc w.heap.size 31 (fun _ => 0) ∧ Row20 wc (w.heap.size + 1) 31 (fun _ => 0) ∧ Below w.heap.size w wc)
      case first =>
        go_wp2
        go_meet
        case rel => exact ⟨rfl, R0, R1, B0⟩
      case rest =>
        clear R0 R1 B0
        obtain ⟨rfl, Rr, Rz, hbe⟩ := hcut
        go_wp2_with (first | (refine wpList_load_row rfl 31 _ rfl (w.heap.size + 1) rfl 31 (vec fun _ => 0) (0, 0) _ Rz Try.underlying31 rfl (hi31 _) ?_) | (refine wpList_store_row rfl 31 _ _ rfl w.heap.size (vec fun _ => 0) rfl rfl 31 _ Rr (hi31 _) rfl (vec_one _) ?_))
        refine bodyPost_ret (v := .agg (vec fun _ => 0)) (results_cell_row Try.results15 _ _ w.heap.size 31 (vec fun _ => 0) (0, 0) _ rfl (Rr.set _) Try.underlying31 rfl (hi31 _)) rfl ?_
        exact ⟨_, rfl, bytes_zero, HV, below_setRow hbe (Nat.le_refl _) _⟩
end Go.Proofs.Qxb6608999a
