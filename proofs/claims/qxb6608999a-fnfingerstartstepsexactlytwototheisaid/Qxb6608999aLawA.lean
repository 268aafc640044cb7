import Derived.Test.Qxb6608999aZZ
import Derived.Test.Qxb6608999aEq
import Derived.Test.Qxb6608999aSub
import Derived.Test.Qxb6608999aPow
import Derived.Deep.Cut
namespace Go.Proofs.Qxb6608999a
open Go.ChangeShapes Go.WideShapes Go.ChangeAt Go.RowKit
set_option linter.unusedVariables false

theorem mod_powK (k : Nat) : (2 : Int) ^ k % M = powK (k : Int) := by
  by_cases h : k < 160
  · rw [powK_in k h]
    have := pow_small k h
    exact Int.emod_eq_of_lt (by omega) this.2
  · rw [powK_out _ (by omega), pow_large k (by omega)]

theorem back_val (a p : Int) : ((a + p) % M - a) % M = p % M := by
  rw [Int.emod_sub_emod, show a + p - a = p by omega]

theorem twice_val (a : Int) (n s : Nat) : ((a + 2 ^ (n + s)) % M + 2 ^ (n + s)) % M = (a + 2 ^ (n + 1 + s)) % M := by
  rw [Int.emod_add_emod]
  congr 1
  rw [show n + 1 + s = (n + s) + 1 by omega, Int.pow_succ]
  generalize (2 : Int) ^ (n + s) = p
  omega

set_option maxRecDepth 100000 in
set_option maxHeartbeats 1000000 in
theorem stepsLaw (b : Int) (x : Nat → Int) (i : Int) (w : World) (hx : Bytes x) :
    Calls Try.prog 4 #[.int .i64 b, .agg (vec x), .int .i64 i] w fun e w' => e = .returned (.bool true) ∧ Below w.heap.size w w' := by
  have HX : Hid (Bytes x) := hx
  clear hx
  have B0 : Below w.heap.size w (w.alloc (.cells (vec x) 31)) := (Below.refl _ _).alloc (Nat.le_refl _) _
  by_cases hb0 : b < 0
  · go_enter Try.func4, Try.ntmps4
    go_wp2
    go_ret
    exact ⟨rfl, B0⟩
  by_cases hb1 : 160 < b
  · go_enter Try.func4, Try.ntmps4
    go_wp2
    go_ret
    exact ⟨rfl, B0⟩
  by_cases hi0 : i < 0
  · go_enter Try.func4, Try.ntmps4
    go_wp2
    go_ret
    exact ⟨rfl, B0⟩
  by_cases hi1 : 9223372036854775646 < i
  · go_enter Try.func4, Try.ntmps4
    go_wp2
    go_ret
    exact ⟨rfl, B0⟩
  obtain ⟨n, rfl⟩ : ∃ n : Nat, i = n := ⟨i.toNat, by omega⟩
  obtain ⟨s, hs⟩ : ∃ s : Nat, 160 - b = s := ⟨(160 - b).toNat, by omega⟩
  have Hs : Hid (160 - b = s) := hs
  clear hs
  have R4 : Row20 (w.alloc (.cells (vec x) 31)) w.heap.size 31 x := Row20.new _ _ _
  have HF : Hid (0 ≤ b ∧ b ≤ 160 ∧ n ≤ 9223372036854775646) := ⟨by omega, by omega, by omega⟩
  go_enter Try.func4, Try.ntmps4
  go_upto_region 6 with (go_at_call 12; refine Calls.mono (space_any b _) ?_; rintro e w2 ⟨rfl, hb2⟩)
  have R4' : Row20 (w2.alloc (.cells #[.int .i64 b] 34)) w.heap.size 31 x := (R4.grow hb2).alloc _
  have C7 : (w2.alloc (.cells #[.int .i64 b] 34)).heap[w2.heap.size]? = some (.cells #[.int .i64 b] 34 (0, 0)) := heap_alloc_new _ _
  have B1 : Below w.heap.size w (w2.alloc (.cells #[.int .i64 b] 34)) := (B0.trans (hb2.mono B0.size)).alloc (Nat.le_trans B0.size hb2.size) _
  have z1 := B1.size
  generalize w2.heap.size = b7 at C7 ⊢
  generalize (w2.alloc (.cells #[.int .i64 b] 34)) = w3 at R4' C7 B1 z1 ⊢
  clear R4 B0 hb2
  go_upto_region 7 with (first
    | (refine wpList_load_row rfl 34 _ rfl b7 rfl 34 #[.int .i64 b] (0, 0) _ C7 Try.underlying34 rfl (hi34 b) ?_)
    | (refine wpList_load_row rfl 31 _ rfl w.heap.size rfl 31 (vec x) (0, 0) _ R4' Try.underlying31 rfl (hi31 x) ?_)
    | (go_at_call 13; refine Calls.mono (zzstart_any b s x n w3 HX.out HF.out.1 HF.out.2.1 Hs (by have := HF.out.2.2; omega)) ?_; rintro e w4 ⟨y, rfl, HY, HVY, hb4⟩)
    | (refine wpList_store_row rfl 31 _ _ rfl w4.heap.size (vec y) rfl rfl 31 _ (Row20.new w4 (fun _ => 0) 31) (hi31 y) rfl (vec_one y) ?_))
  have R8 := Row20.fresh w4 31 y
  have R4 := R4'.past hb4 31 y
  have C7' := blk_past C7 hb4 31 y
  have B2 := below_past B1 z1 hb4 31 y
  have z2 := B2.size
  change Code.wp _ _ _ _ ((w4.alloc (.cells (vec fun _ => 0) 31)).setRow w4.heap.size (vec y))
  generalize w4.heap.size = b8 at R8 R4 C7' B2 z2 ⊢
  generalize ((w4.alloc (.cells (vec fun _ => 0) 31)).setRow b8 (vec y)) = w5 at R8 R4 C7' B2 z2 ⊢
  clear R4' C7 B1 z1 hb4
  go_upto_region 8 with (first
    | (refine wpList_load_row rfl 34 _ rfl b7 rfl 34 #[.int .i64 b] (0, 0) _ C7' Try.underlying34 rfl (hi34 b) ?_)
    | (refine wpList_load_row rfl 31 _ rfl b8 rfl 31 (vec y) (0, 0) _ R8 Try.underlying31 rfl (hi31 y) ?_)
    | (go_at_call 13; refine Calls.mono (zzstart_any b s y n w5 HY.out HF.out.1 HF.out.2.1 Hs (by have := HF.out.2.2; omega)) ?_; rintro e w6 ⟨y2, rfl, HY2, HVY2, hb6⟩)
    | (refine wpList_store_row rfl 32 _ _ rfl w6.heap.size (vec y2) rfl rfl 32 _ (Row20.new w6 (fun _ => 0) 32) (hi32 y2) rfl (vec_one y2) ?_))
  have R9 := Row20.fresh w6 32 y2
  have R8' := R8.past hb6 32 y2
  have R4' := R4.past hb6 32 y2
  have C7 := blk_past C7' hb6 32 y2
  have B1 := below_past B2 z2 hb6 32 y2
  have z1 := B1.size
  change Code.wp _ _ _ _ ((w6.alloc (.cells (vec fun _ => 0) 32)).setRow w6.heap.size (vec y2))
  generalize w6.heap.size = b9 at R9 R8' R4' C7 B1 z1 ⊢
  generalize ((w6.alloc (.cells (vec fun _ => 0) 32)).setRow b9 (vec y2)) = w7 at R9 R8' R4' C7 B1 z1 ⊢
  clear R4 R8 C7' B2 z2 hb6
  have en : Hid ((n : Int) + 1 = ((n + 1 : Nat) : Int)) := by show _ = _; omega
  go_upto_region 9 with (first
    | (refine wpList_load_row rfl 34 _ rfl b7 rfl 34 #[.int .i64 b] (0, 0) _ C7 Try.underlying34 rfl (hi34 b) ?_)
    | (refine wpList_load_row rfl 31 _ rfl w.heap.size rfl 31 (vec x) (0, 0) _ R4' Try.underlying31 rfl (hi31 x) ?_)
    | (go_at_call 13; rw [en.out]; refine Calls.mono (zzstart_any b s x (n + 1) w7 HX.out HF.out.1 HF.out.2.1 Hs (by have := HF.out.2.2; omega)) ?_; rintro e w8 ⟨y3, rfl, HY3, HVY3, hb8⟩)
    | (refine wpList_store_row rfl 32 _ _ rfl w8.heap.size (vec y3) rfl rfl 32 _ (Row20.new w8 (fun _ => 0) 32) (hi32 y3) rfl (vec_one y3) ?_))
  have R10 := Row20.fresh w8 32 y3
  have R9' := R9.past hb8 32 y3
  have R8 := R8'.past hb8 32 y3
  have R4 := R4'.past hb8 32 y3
  have B2 := below_past B1 z1 hb8 32 y3
  have z2 := B2.size
  change Code.wp _ _ _ _ ((w8.alloc (.cells (vec fun _ => 0) 32)).setRow w8.heap.size (vec y3))
  generalize w8.heap.size = b10 at R10 R9' R8 R4 B2 z2 ⊢
  generalize ((w8.alloc (.cells (vec fun _ => 0) 32)).setRow b10 (vec y3)) = w9 at R10 R9' R8 R4 B2 z2 ⊢
  clear R4' R8' R9 C7 B1 z1 hb8
  go_wp2_with (first
    | (refine wpList_load_row rfl 31 _ rfl b8 rfl 31 (vec y) (0, 0) _ R8 Try.underlying31 rfl (hi31 y) ?_)
    | (refine wpList_load_row rfl 31 _ rfl w.heap.size rfl 31 (vec x) (0, 0) _ R4 Try.underlying31 rfl (hi31 x) ?_)
    | (go_at_call 14; refine Calls.mono (sub_any y x w9 HY.out HX.out) ?_; rintro e w10 ⟨u, rfl, HU, HVU, hb10⟩)
    | (go_at_call 15; refine Calls.mono (pow_any _ _ (by omega) (by omega)) ?_; rintro e w11 ⟨v, rfl, HW, HVW, hb11⟩))
  have R9a := (R9'.grow hb10).grow hb11
  have R10a := (R10.grow hb10).grow hb11
  have B3 : Below w.heap.size w w11 := (B2.trans (hb10.mono z2)).trans (hb11.mono (Nat.le_trans z2 hb10.size))
  have E1 : Hid (((List.range 20).all fun k => u k == v k) = true) := by
    refine all_of_val HU.out HW.out ?_
    rw [HVU.out, HVW.out, HVY.out, back_val, mod_powK, show (n : Int) + 160 - b = ((n + s : Nat) : Int) by have := Hs.out; omega]
  have E2 : Hid (((List.range 20).all fun k => y2 k == y3 k) = true) := by
    refine all_of_val HY2.out HY3.out ?_
    rw [HVY2.out, HVY3.out, HVY.out, twice_val]
  rw [run_equal_vec31, E1.out]
  simp only [Result.andThen_ok]
  go_wp2_with (first
    | (refine wpList_step (fun K hK => ?_); rw [if_pos (by rfl)]; refine wp_load_row 32 _ rfl b9 rfl 32 (vec y2) (0, 0) _ R9a Try.underlying32 rfl (hi32 y2) (hK _ _ ?_); clear hK K)
    | (refine wpList_step (fun K hK => ?_); rw [if_pos (by rfl)]; refine wp_load_row 32 _ rfl b10 rfl 32 (vec y3) (0, 0) _ R10a Try.underlying32 rfl (hi32 y3) (hK _ _ ?_); clear hK K))
  rw [run_equal_vec32, E2.out]
  simp only [Result.andThen_ok]
  go_wp2
  go_ret
  exact ⟨rfl, B3⟩
end Go.Proofs.Qxb6608999a
