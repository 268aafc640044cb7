import Derived.Test.Qxb6615076aState
import Derived.Deep.QuietTactic
import Derived.BigQuiet
import Derived.Lib.EndianBits
namespace Go.Proofs.Qxb6615076a
open Go.ChangeShapes Go.WideShapes Go.ChangeAt Go.RowKit
set_option linter.unusedVariables false

theorem chunk_no {d : Nat → Int} {a b e t : Nat} (ht : t < e) (h : (d (a + t) != d (b + t)) = true) : chunkEq d a b e = false := by
  rw [chunkEq_false]; exact ⟨t, ht, by simpa using h⟩

set_option maxHeartbeats 1000000 in
theorem chunk_core (q L c mj mk j k ss : Nat) (d : Nat → Int) (w : World) (hs : ss ≤ 32) (hj : j ≤ 65536) (hk : k ≤ 65536) (hL : L ≤ 65536)
    (e1 : (j : Int) * (4 + (ss : Int)) = (mj : Int)) (e2 : (k : Int) * (4 + (ss : Int)) = (mk : Int)) (i1 : mj + (4 + ss) ≤ L) (i2 : mk + (4 + ss) ≤ L)
    (hd : ∀ i, 0 ≤ d i ∧ d i ≤ 255) (hc : ∀ i, i < L → w.cell? ⟨q, i, none⟩ = some (.int .u8 (d i))) :
    Calls Try.prog 14 #[.slice (some ⟨q, 0, none⟩) L c, .int .i64 (4 + (ss : Int)), .int .i64 j, .int .i64 k] w fun x w' => x = .returned (.bool (chunkEq d mj mk (4 + ss))) ∧ ∃ n, w' = w.drewN n := by
  have HC : Hid (∀ i, i < L → w.cell? ⟨q, i, none⟩ = some (.int .u8 (d i))) := hc
  clear hc hd
  go_enter Try.func14, Try.ntmps14
  go_wp2
  go_loopw [9] (fun i wr => ∃ t m : Nat, t ≤ 4 + ss ∧ i = .int .i64 t ∧ wr = w.drewN m ∧ Hid (∀ u, u < t → d (mj + u) = d (mk + u))) (fun i _ => 4 + ss - (intOf i).toNat)
  case atStart => exact ⟨0, 0, Nat.zero_le _, rfl, rfl, fun u h => by omega⟩
  case round =>
    obtain ⟨t, m, ht, rfl, rfl, H⟩ := hrel
    by_cases hlt : t < 4 + ss
    · have c1 := HC.out (mj + t) (by omega)
      have c2 := HC.out (mk + t) (by omega)
      have hlt' : (t : Int) < 4 + (ss : Int) := by omega
      have g1 : (mj : Int) + (t : Int) < (L : Int) := by omega
      have g2 : (mk : Int) + (t : Int) < (L : Int) := by omega
      by_cases hne : d (mj + t) = d (mk + t)
      · have hb : (d (mj + t) != d (mk + t)) = false := by simp [hne]
        have H2 : Hid (∀ u, u < t + 1 → d (mj + u) = d (mk + u)) := fun u hu => by
          by_cases e : u = t
          · rw [e]; exact hne
          · exact H.out u (by omega)
        clear hne
        go_wp2
        go_quiet (fail)
        go_wp2
        go_roundw
        case rel => exact ⟨t + 1, _, by omega, by go_num, rfl, H2⟩
        case measure => simp [intOf]; omega
      · have hb : (d (mj + t) != d (mk + t)) = true := by simp [hne]
        have HF : Hid (chunkEq d mj mk (4 + ss) = false) := chunk_no hlt hb
        clear hne
        go_wp2
        go_quiet (fail)
        go_wp2
        go_ret
        exact ⟨congrArg (fun z => Ending.returned (.bool z)) HF.out.symm, m + nq, World.drewN_drewN _ _ _⟩
    · have HT : Hid (chunkEq d mj mk (4 + ss) = true) := chunkEq_true.2 (fun u hu => H.out u (by omega))
      have hlt' : ¬ (t : Int) < 4 + (ss : Int) := by omega
      go_wp2
      go_ret
      exact ⟨congrArg (fun z => Ending.returned (.bool z)) HT.out.symm, _, rfl⟩

theorem chunk_sig {w : World} (q L c ss n j k : Nat) (d : Nat → Int) {bs sz : Int} (ok : SigOk L ss n bs sz d) (hj : j < n) (hk : k < n) (hc : ∀ i, i < L → w.cell? ⟨q, i, none⟩ = some (.int .u8 (d i))) :
    Calls Try.prog 14 #[.slice (some ⟨q, 0, none⟩) L c, .int .i64 (4 + (ss : Int)), .int .i64 j, .int .i64 k] w fun x w' => x = .returned (.bool (sameB d ss j k)) ∧ ∃ m, w' = w.drewN m := by
  have hrj := row_le j n ss L hj ok.ln
  have hrk := row_le k n ss L hk ok.ln
  have n1 := ok.n1
  exact chunk_core q L c (j * (4 + ss)) (k * (4 + ss)) j k ss d w ok.ss1 (by omega) (by omega) ok.l1 (by simp) (by simp) (by omega) (by omega) ok.hd hc

theorem or4' (b0 b1 b2 b3 : Int) (k0 : 0 ≤ b0 ∧ b0 ≤ 255) (k1 : 0 ≤ b1 ∧ b1 ≤ 255) (k2 : 0 ≤ b2 ∧ b2 ≤ 255) (k3 : 0 ≤ b3 ∧ b3 ≤ 255) :
    bits BinOp.or IntKind.u32 (bits BinOp.or IntKind.u32 (bits BinOp.or IntKind.u32 (b0 * 16777216) (b1 * 65536)) (b2 * 256)) b3 = b0 * 16777216 + b1 * 65536 + b2 * 256 + b3 := by
  rw [bits_join .u32 32 (by decide) wraps_u32 24 (b0 * 16777216) (b1 * 65536) (by omega) (by omega) (by omega) (by omega) (by omega) (by omega),
    bits_join .u32 32 (by decide) wraps_u32 16 (b0 * 16777216 + b1 * 65536) (b2 * 256) (by omega) (by omega) (by omega) (by omega) (by omega) (by omega),
    bits_join .u32 32 (by decide) wraps_u32 8 (b0 * 16777216 + b1 * 65536 + b2 * 256) b3 (by omega) (by omega) (by omega) (by omega) (by omega) (by omega)]

set_option maxHeartbeats 1000000 in
theorem weakOf_core (q L c m k ss : Nat) (b0 b1 b2 b3 : Int) (w : World) (hs : ss ≤ 32) (hk : k ≤ 65536) (hL : L ≤ 65536)
    (e1 : (k : Int) * (4 + (ss : Int)) = (m : Int)) (i1 : m + 4 ≤ L) (k0 : 0 ≤ b0 ∧ b0 ≤ 255) (k1 : 0 ≤ b1 ∧ b1 ≤ 255) (k2 : 0 ≤ b2 ∧ b2 ≤ 255) (k3 : 0 ≤ b3 ∧ b3 ≤ 255)
    (c0 : w.cell? ⟨q, m, none⟩ = some (.int .u8 b0)) (c1 : w.cell? ⟨q, m + 1, none⟩ = some (.int .u8 b1)) (c2 : w.cell? ⟨q, m + 2, none⟩ = some (.int .u8 b2)) (c3 : w.cell? ⟨q, m + 3, none⟩ = some (.int .u8 b3)) :
    Calls Try.prog 16 #[.slice (some ⟨q, 0, none⟩) L c, .int .i64 (4 + (ss : Int)), .int .i64 k] w fun x w' => x = .returned (.int .u32 (b0 * 16777216 + b1 * 65536 + b2 * 256 + b3)) ∧ ∃ n, w' = w.drewN n := by
  have H := or4' b0 b1 b2 b3 k0 k1 k2 k3
  have HH : Hid (bits BinOp.or IntKind.u32 (bits BinOp.or IntKind.u32 (bits BinOp.or IntKind.u32 (b0 * 16777216) (b1 * 65536)) (b2 * 256)) b3 = b0 * 16777216 + b1 * 65536 + b2 * 256 + b3) := H
  clear H
  have g0 : (m : Int) < (L : Int) := by omega
  have g1 : (m : Int) + 1 < (L : Int) := by omega
  have g2 : (m : Int) + 2 < (L : Int) := by omega
  have g3 : (m : Int) + 3 < (L : Int) := by omega
  go_enter Try.func16, Try.ntmps16
  go_wp2
  go_quiet (fail)
  go_wp2
  go_ret
  exact ⟨congrArg (fun z => Ending.returned (.int .u32 z)) HH.out, _, rfl⟩

theorem weakOf_sig {w : World} (q L c ss n k : Nat) (d : Nat → Int) {bs sz : Int} (ok : SigOk L ss n bs sz d) (hk : k < n) (hc : ∀ i, i < L → w.cell? ⟨q, i, none⟩ = some (.int .u8 (d i))) :
    Calls Try.prog 16 #[.slice (some ⟨q, 0, none⟩) L c, .int .i64 (4 + (ss : Int)), .int .i64 k] w fun x w' => x = .returned (.int .u32 (wkv d ss k)) ∧ ∃ m, w' = w.drewN m := by
  have hrk := row_le k n ss L hk ok.ln
  have n1 := ok.n1
  exact weakOf_core q L c (k * (4 + ss)) k ss _ _ _ _ w ok.ss1 (by omega) ok.l1 (by simp) (by omega) (ok.hd _) (ok.hd _) (ok.hd _) (ok.hd _) (hc _ (by omega)) (hc _ (by omega)) (hc _ (by omega)) (hc _ (by omega))

/-! The table inside a Differ: its field 1. -/
set_option maxHeartbeats 400000 in
theorem slot_any1 (p : Nat) (sh : Nat) (x : Int) (w : World) (hs : sh ≤ 31) (hc0 : w.cell? ⟨p, 1, none⟩ = some (.int .u64 sh)) :
    Calls Try.prog 31 #[.pointer (some ⟨p, 1, none⟩), .int .u32 x] w fun e w' => e = .returned (.int .u32 (x * 2246822507 % 4294967296 / 2 ^ sh)) ∧ w' = w := by
  go_enter Try.func31, Try.ntmps31
  go_wp2
  go_ret
  exact ⟨rfl, rfl⟩

set_option maxHeartbeats 400000 in
theorem first_any1 (p q : Nat) (sh : Nat) (N : Nat) (x : Int) (v : Int) (w : World) (hs : sh ≤ 31)
    (hi : x * 2246822507 % 4294967296 / 2 ^ sh < N) (hi0 : 0 ≤ x * 2246822507 % 4294967296 / 2 ^ sh) (hv : -2147483648 ≤ v) (hv2 : v ≤ 2147483647)
    (hc0 : w.cell? ⟨p, 1, none⟩ = some (.int .u64 sh)) (hc1 : w.cell? ⟨p, 2, none⟩ = some (.slice (some ⟨q, 0, none⟩) N N))
    (hcv : w.cell? ⟨q, (x * 2246822507 % 4294967296 / 2 ^ sh).toNat, none⟩ = some (.int .i32 v)) :
    Calls Try.prog 29 #[.pointer (some ⟨p, 1, none⟩), .int .u32 x] w fun e w' => e = .returned (.int .i64 (v - 1)) ∧ ∃ n, w' = w.drewN n := by
  go_enter Try.func29, Try.ntmps29
  go_wp2
  go_quiet ((go_at_call 31; exact Calls.quiet_of_same (slot_any1 p sh x _ hs hc0)))
  go_wp2
  go_ret
  exact ⟨rfl, _, rfl⟩

set_option maxHeartbeats 400000 in
theorem dfirst_sig (dp sp sh N : Nat) (x v : Int) (w : World) (hs : sh ≤ 31) (hi : slotN sh x < N) (hv : 0 ≤ v ∧ v ≤ 65536)
    (hc0 : w.cell? ⟨dp, 1, none⟩ = some (.int .u64 sh)) (hc1 : w.cell? ⟨dp, 2, none⟩ = some (.slice (some ⟨sp, 0, none⟩) N N))
    (hcv : w.cell? ⟨sp, slotN sh x, none⟩ = some (.int .i32 v)) :
    Calls Try.prog 15 #[.pointer (some ⟨dp, 0, none⟩), .int .u32 x] w fun e w' => e = .returned (.int .i64 (v - 1)) ∧ ∃ n, w' = w.drewN n := by
  have HV : Hid (w.cell? ⟨sp, slotN sh x, none⟩ = some (.int .i32 v)) := hcv
  have HI : Hid (slotN sh x < N) := hi
  clear hcv hi
  go_enter Try.func15, Try.ntmps15
  go_wp2_with fail
  refine (first_any1 dp sp sh N x v w hs (by rw [← slotN_cast]; have := HI.out; omega) (slot_nonneg sh x) (by omega) (by omega) hc0 hc1 HV.out).mono ?_
  rintro e w' ⟨rfl, n, rfl⟩
  go_wp2
  go_ret
  exact ⟨rfl, _, rfl⟩

set_option maxHeartbeats 400000 in
theorem dnext_sig (dp np n j : Nat) (v : Int) (w : World) (hj : j < n) (hn : n ≤ 65536) (hc1 : w.cell? ⟨dp, 3, none⟩ = some (.slice (some ⟨np, 0, none⟩) n n))
    (hcv : w.cell? ⟨np, j, none⟩ = some (.int .i64 v)) :
    Calls Try.prog 17 #[.pointer (some ⟨dp, 0, none⟩), .int .i64 j] w fun e w' => e = .returned (.int .i64 v) ∧ w' = w := by
  have hj' : (j : Int) < (n : Int) := by omega
  go_enter Try.func17, Try.ntmps17
  go_wp2
  go_ret
  exact ⟨rfl, rfl⟩
end Go.Proofs.Qxb6615076a
