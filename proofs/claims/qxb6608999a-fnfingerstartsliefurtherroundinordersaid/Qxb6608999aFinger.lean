import Derived.Test.Qxb6608999aRow20
import Derived.Test.Qxb6608999aPlain
import Derived.WalkKit
import Derived.ProofKit
import Derived.WalkSmall
import Derived.Deep.OwnRows
import Derived.Deep.LoopGhost
namespace Go.Proofs.Qxb6608999a
open Go.ChangeShapes Go.WideShapes Go.ChangeAt Go.RowKit
set_option linter.unusedVariables false

set_option maxRecDepth 100000 in
set_option maxHeartbeats 4000000 in
theorem finger_any (x : Nat → Int) (i : Nat) (w : World) (hx : Bytes x) (hi : i ≤ 9223372036854775807) :
    Calls Try.prog 22 #[.agg (vec x), .int .i64 i] w fun e w' => ∃ y : Nat → Int, e = .returned (.agg (vec y)) ∧ Hid (Bytes y) ∧ Hid (valN y 20 = (valN x 20 + 2 ^ i) % M) ∧ Below w.heap.size w w' := by
  have hp := pow_mod8 i
  obtain ⟨hp0, hp1⟩ := hp
  have HX : Hid (Bytes x) := hx
  clear hx
  have R0 : Row20 ((w.alloc (.cells (vec x) 32)).alloc (.cells (vec fun _ => 0) 32)) w.heap.size 32 x := (Row20.new w x 32).alloc _
  have R10 : Row20 ((w.alloc (.cells (vec x) 32)).alloc (.cells (vec fun _ => 0) 32)) (w.heap.size + 1) 32 (fun _ => 0) := by
    have := Row20.new (w.alloc (.cells (vec x) 32)) (fun _ => 0) 32
    simpa using this
  go_enter Try.func22, Try.ntmps22
  go_wp2
  go_loopg [5, 6] (20 - i / 8) (fun g vc vb wr => ∃ (c bI : Int) (z : Nat → Int), g ≤ 20 ∧ vc = .int .i64 c ∧ vb = .int .i64 bI ∧ (g = 0 → bI < 0) ∧ (0 < g → bI = (g : Int) - 1) ∧ -9223372036854775000 ≤ bI ∧ 0 ≤ c ∧ c ≤ 128 ∧ Hid (Bytes z) ∧ Row20 wr w.heap.size 32 z ∧ Row20 wr (w.heap.size + 1) 32 (fun _ => 0) ∧ Below w.heap.size w wr ∧ Hid (Kept x z i g c))
  case atStart => exact ⟨2 ^ (i % 8), 19 - (i : Int) / 8, x, by omega, rfl, rfl, by omega, by omega, by omega, by omega, hp1, HX, R0, R10, ((Below.refl _ _).alloc (Nat.le_refl _) _).alloc (by simp) _, Kept.start x i⟩
  case round =>
    clear R0 R10
    obtain ⟨c, bI, z, hg, rfl, rfl, hb0, hb1, hbl, hc0, hc1, HZ, R, R1, hbe, H⟩ := hrel
    by_cases hgo : 0 < gk ∧ 0 < c
    · obtain ⟨hg1, hcp⟩ := hgo
      obtain ⟨b, rfl⟩ : ∃ b, gk = b + 1 := ⟨gk - 1, by omega⟩
      obtain rfl : bI = (b : Int) := by have := hb1 hg1; omega
      have hb20 : b < 20 := by omega
      have hzb := HZ.out b
      obtain ⟨hz0, hz1⟩ := hzb
      have eb : wr.cell? ⟨w.heap.size, b, none⟩ = some (.int .u8 (z b)) := R.cell hb20
      have fb := R.frozen b
      have HK : Hid (Kept x (fun k => if k = b then (z b + c) % 256 else z k) i b ((z b + c) / 256)) := Kept.step H.out hb20
      have HB : Hid (Bytes (fun k => if k = b then (z b + c) % 256 else z k)) := bytes_upd HZ.out b _ (by omega) (by omega)
      have R' := R.step b ((z b + c) % 256)
      have R1' : Row20 (wr.setCell ⟨w.heap.size, b, none⟩ (.int .u8 ((z b + c) % 256))) (w.heap.size + 1) 32 (fun _ => 0) := R1.other (by simp) _
      clear hb0 hb1 H HZ
      go_wp2
      go_roundg b
      case measure => omega
      case rel => exact ⟨(z b + c) / 256, (b : Int) - 1, _, by omega, rfl, rfl, by omega, by omega, by omega, by omega, by omega, HB, R', R1', hbe.setCell (Nat.le_refl _) _, HK⟩
    · have hv : valN z 20 = (valN x 20 + 2 ^ i) % M := by
        by_cases h0 : gk = 0
        · subst h0; exact H.out.end0 HZ.out
        · obtain rfl : c = 0 := by omega
          exact H.out.endc HZ.out
      have HV : Hid (valN z 20 = (valN x 20 + 2 ^ i) % M) := hv
      clear hv H
      by_cases hbn : bI < 0
      · clear hgo hb0 hb1
        go_wp2_with (first | (refine wpList_load_row rfl 32 _ rfl w.heap.size rfl 32 (vec z) (0, 0) _ R Try.underlying32 rfl (hi32 z) ?_) | (refine wpList_store_row rfl 32 _ _ rfl (w.heap.size + 1) (vec z) rfl rfl 32 _ R1 (hi32 z) rfl (vec_one z) ?_))
        refine bodyPost_ret (v := .agg (vec z)) (results_cell_row Try.results22 _ _ (w.heap.size + 1) 32 (vec z) (0, 0) _ rfl (R1.set z) Try.underlying32 rfl (hi32 z)) rfl ?_
        exact ⟨z, rfl, HZ, HV, below_setRow hbe (by simp) _⟩
      · obtain rfl : c = 0 := by
          by_cases h0 : gk = 0
          · exact absurd (hb0 h0) hbn
          · omega
        clear hgo hb0 hb1
        go_wp2_with (first | (refine wpList_load_row rfl 32 _ rfl w.heap.size rfl 32 (vec z) (0, 0) _ R Try.underlying32 rfl (hi32 z) ?_) | (refine wpList_store_row rfl 32 _ _ rfl (w.heap.size + 1) (vec z) rfl rfl 32 _ R1 (hi32 z) rfl (vec_one z) ?_))
        refine bodyPost_ret (v := .agg (vec z)) (results_cell_row Try.results22 _ _ (w.heap.size + 1) 32 (vec z) (0, 0) _ rfl (R1.set z) Try.underlying32 rfl (hi32 z)) rfl ?_
        exact ⟨z, rfl, HZ, HV, below_setRow hbe (by simp) _⟩
end Go.Proofs.Qxb6608999a
