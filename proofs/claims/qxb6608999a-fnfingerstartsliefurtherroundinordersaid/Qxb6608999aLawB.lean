import Derived.Test.Qxb6608999aZZ
import Derived.Test.Qxb6608999aEq
import Derived.Test.Qxb6608999aSub
import Derived.Test.Qxb6608999aPow
import Derived.Test.Qxb6608999aBetween
import Derived.Deep.Cut
import Derived.Deep.RegionWith
namespace Go.Proofs.Qxb6608999a
open Go.ChangeShapes Go.WideShapes Go.ChangeAt Go.RowKit
set_option linter.unusedVariables false

theorem mod_once {c : Int} (h0 : 0 ≤ c) (h1 : c < 2 * M) : c % M = if c < M then c else c - M := by
  have hM := M_pos
  split
  · exact Int.emod_eq_of_lt h0 (by omega)
  · rw [← Int.sub_emod_right]; exact Int.emod_eq_of_lt (by omega) (by omega)

/-- a, a+p, a+q on the ring of M ids, 0 < p < q < M: the three comparisons that Within makes. -/
theorem ring_order {a p q x b : Int} (ha : 0 ≤ a ∧ a < M) (hp : 0 < p) (hpq : p < q) (hq : q < M) (hx : x = (a + p) % M) (hb : b = (a + q) % M) :
    x ≠ b ∧ ∃ s1 s2 s3 : Int, sgn x a = s1 ∧ sgn x b = s2 ∧ sgn a b = s3 ∧ ((s1 = 1 ∧ s2 = -1 ∧ s3 = -1) ∨ (s1 = 1 ∧ s2 = 1 ∧ s3 = 1) ∨ (s1 = -1 ∧ s2 = -1 ∧ s3 = 1)) := by
  rw [mod_once (by omega) (by omega)] at hx hb
  by_cases h1 : a + p < M
  · rw [if_pos h1] at hx
    by_cases h2 : a + q < M
    · rw [if_pos h2] at hb
      exact ⟨by omega, 1, -1, -1, sgn_gt (by omega), sgn_lt (by omega), sgn_lt (by omega), .inl ⟨rfl, rfl, rfl⟩⟩
    · rw [if_neg h2] at hb
      exact ⟨by omega, 1, 1, 1, sgn_gt (by omega), sgn_gt (by omega), sgn_gt (by omega), .inr (.inl ⟨rfl, rfl, rfl⟩)⟩
  · rw [if_neg h1] at hx
    rw [if_neg (by omega)] at hb
    exact ⟨by omega, -1, -1, 1, sgn_lt (by omega), sgn_lt (by omega), sgn_gt (by omega), .inr (.inr ⟨rfl, rfl, rfl⟩)⟩

theorem dist_val (a p q : Int) : ((a + q) % M - (a + p) % M) % M = (q - p) % M := by
  rw [Int.sub_emod, Int.emod_emod_of_dvd _ (Int.dvd_refl _), Int.emod_emod_of_dvd _ (Int.dvd_refl _), ← Int.sub_emod, show a + q - (a + p) = q - p by omega]

set_option maxRecDepth 100000 in
set_option maxHeartbeats 4000000 in
theorem orderLaw (b : Int) (x : Nat → Int) (i j : Int) (w : World) (hx : Bytes x) :
    Calls Try.prog 5 #[.int .i64 b, .agg (vec x), .int .i64 i, .int .i64 j] w fun e w' => e = .returned (.bool true) ∧ Below w.heap.size w w' := by
  have HX : Hid (Bytes x) := hx
  clear hx
  have B0 : Below w.heap.size w (w.alloc (.cells (vec x) 31)) := (Below.refl _ _).alloc (Nat.le_refl _) _
  by_cases hb0 : b < 1
  · go_enter Try.func5, Try.ntmps5
    go_wp2
    go_ret
    exact ⟨rfl, B0⟩
  by_cases hb1 : 160 < b
  · go_enter Try.func5, Try.ntmps5
    go_wp2
    go_ret
    exact ⟨rfl, B0⟩
  by_cases hi0 : i < 0
  · go_enter Try.func5, Try.ntmps5
    go_wp2
    go_ret
    exact ⟨rfl, B0⟩
  by_cases hij : j ≤ i
  · go_enter Try.func5, Try.ntmps5
    go_wp2
    go_ret
    exact ⟨rfl, B0⟩
  by_cases hjb : b ≤ j
  · go_enter Try.func5, Try.ntmps5
    go_wp2
    go_ret
    exact ⟨rfl, B0⟩
  obtain ⟨n, rfl⟩ : ∃ n : Nat, i = n := ⟨i.toNat, by omega⟩
  obtain ⟨m, rfl⟩ : ∃ m : Nat, j = m := ⟨j.toNat, by omega⟩
  obtain ⟨s, hs⟩ : ∃ s : Nat, 160 - b = s := ⟨(160 - b).toNat, by omega⟩
  have HF : Hid (1 ≤ b ∧ b ≤ 160 ∧ n < m ∧ m + s < 160) := ⟨by omega, by omega, by omega, by omega⟩
  have Hs : Hid (160 - b = s) := hs
  clear hs
  have R4 : Row20 (w.alloc (.cells (vec x) 31)) w.heap.size 31 x := Row20.new _ _ _
  go_enter Try.func5, Try.ntmps5
  go_upto_region 6 with (go_at_call 12; refine Calls.mono (space_any b _) ?_; rintro e w2 ⟨rfl, hb2⟩)
  have R4' : Row20 (w2.alloc (.cells #[.int .i64 b] 34)) w.heap.size 31 x := (R4.grow hb2).alloc _
  have C7 : (w2.alloc (.cells #[.int .i64 b] 34)).heap[w2.heap.size]? = some (.cells #[.int .i64 b] 34 (0, 0)) := heap_alloc_new _ _
  have B1 : Below w.heap.size w (w2.alloc (.cells #[.int .i64 b] 34)) := (B0.trans (hb2.mono B0.size)).alloc (Nat.le_trans B0.size hb2.size) _
  have z1 := B1.size
  generalize w2.heap.size = b7 at C7 ⊢
  generalize (w2.alloc (.cells #[.int .i64 b] 34)) = w3 at R4' C7 B1 z1 ⊢
  clear R4 B0 hb2
  go_upto_region 7 with (first
    | (refine wpList_load_row rfl 34 _ rfl b7 rfl 34 #[.int .i64 b] (0, 0) _ C7 Try.underlying34 rfl (hi34 b) ?_)
    | (refine wpList_load_row rfl 31 _ rfl w.heap.size rfl 31 (vec x) (0, 0) _ R4' Try.underlying31 rfl (hi31 x) ?_)
    | (go_at_call 13; refine Calls.mono (zzstart_any b s x n w3 HX.out (by have := HF.out; omega) HF.out.2.1 Hs (by have := HF.out; omega)) ?_; rintro e w4 ⟨y, rfl, HY, HVY, hb4⟩)
    | (refine wpList_store_row rfl 32 _ _ rfl w4.heap.size (vec y) rfl rfl 32 _ (Row20.new w4 (fun _ => 0) 32) (hi32 y) rfl (vec_one y) ?_))
  have R8 := Row20.fresh w4 32 y
  have R4 := R4'.past hb4 32 y
  have C7' := blk_past C7 hb4 32 y
  have B2 := below_past B1 z1 hb4 32 y
  have z2 := B2.size
  change Code.wp _ _ _ _ ((w4.alloc (.cells (vec fun _ => 0) 32)).setRow w4.heap.size (vec y))
  generalize w4.heap.size = b8 at R8 R4 C7' B2 z2 ⊢
  generalize ((w4.alloc (.cells (vec fun _ => 0) 32)).setRow b8 (vec y)) = w5 at R8 R4 C7' B2 z2 ⊢
  clear R4' C7 B1 z1 hb4
  go_upto_region 8 with (first
    | (refine wpList_load_row rfl 34 _ rfl b7 rfl 34 #[.int .i64 b] (0, 0) _ C7' Try.underlying34 rfl (hi34 b) ?_)
    | (refine wpList_load_row rfl 31 _ rfl w.heap.size rfl 31 (vec x) (0, 0) _ R4 Try.underlying31 rfl (hi31 x) ?_)
    | (go_at_call 13; refine Calls.mono (zzstart_any b s x m w5 HX.out (by have := HF.out; omega) HF.out.2.1 Hs (by have := HF.out; omega)) ?_; rintro e w6 ⟨y2, rfl, HY2, HVY2, hb6⟩)
    | (refine wpList_store_row rfl 32 _ _ rfl w6.heap.size (vec y2) rfl rfl 32 _ (Row20.new w6 (fun _ => 0) 32) (hi32 y2) rfl (vec_one y2) ?_))
  have R9 := Row20.fresh w6 32 y2
  have R8' := R8.past hb6 32 y2
  have R4' := R4.past hb6 32 y2
  have B1 := below_past B2 z2 hb6 32 y2
  have z1 := B1.size
  change Code.wp _ _ _ _ ((w6.alloc (.cells (vec fun _ => 0) 32)).setRow w6.heap.size (vec y2))
  generalize w6.heap.size = b9 at R9 R8' R4' B1 z1 ⊢
  generalize ((w6.alloc (.cells (vec fun _ => 0) 32)).setRow b9 (vec y2)) = w7 at R9 R8' R4' B1 z1 ⊢
  clear R4 R8 C7' B2 z2 hb6
  have HO := ring_order (val_lt HX.out) (pow_small (n + s) (by have := HF.out; omega)).1 (Int.pow_lt_pow_of_lt (by decide) (by have := HF.out; omega)) (pow_small (m + s) (by have := HF.out; omega)).2 HVY.out HVY2.out
  obtain ⟨hne, s1, s2, s3, e1, e2, e3, hcase⟩ := HO
  have Hne : Hid (valN y 20 ≠ valN y2 20) := hne
  have E1 : Hid (sgn (valN y 20) (valN x 20) = s1) := e1
  have E2 : Hid (sgn (valN y 20) (valN y2 20) = s2) := e2
  have E3 : Hid (sgn (valN x 20) (valN y2 20) = s3) := e3
  have Hc : Hid ((s1 = 1 ∧ s2 = -1 ∧ s3 = -1) ∨ (s1 = 1 ∧ s2 = 1 ∧ s3 = 1) ∨ (s1 = -1 ∧ s2 = -1 ∧ s3 = 1)) := hcase
  clear hne e1 e2 e3 hcase
  have Hsb : Hid (160 - b = s) := Hs
  go_upto_region 9 with fail
  go_wp2_with (first
    | (refine wpList_load_row rfl 32 _ rfl b8 rfl 32 (vec y) (0, 0) _ R8' Try.underlying32 rfl (hi32 y) ?_)
    | (refine wpList_load_row rfl 31 _ rfl w.heap.size rfl 31 (vec x) (0, 0) _ R4' Try.underlying31 rfl (hi31 x) ?_)
    | (refine wpList_load_row rfl 32 _ rfl b9 rfl 32 (vec y2) (0, 0) _ R9 Try.underlying32 rfl (hi32 y2) ?_)
    | (go_at_call 16; refine Calls.mono (between_true y x y2 w7 s1 s2 s3 HY HX HY2 E1 E2 E3 Hc Hne) ?_; rintro e w8 ⟨rfl, hb8⟩)
    | (refine wpList_step (fun K hK => ?_); rw [if_pos (by rfl)]; refine wp_load_row 32 _ rfl b9 rfl 32 (vec y2) (0, 0) _ (R9.grow hb8) Try.underlying32 rfl (hi32 y2) (hK _ _ ?_); clear hK K)
    | (refine wpList_step (fun K hK => ?_); rw [if_pos (by rfl)]; refine wp_load_row 32 _ rfl b8 rfl 32 (vec y) (0, 0) _ (R8'.grow hb8) Try.underlying32 rfl (hi32 y) (hK _ _ ?_); clear hK K)
    | (go_at_call_of 14 y2; refine Calls.mono (sub_any y2 y w8 HY2.out HY.out) ?_; rintro e w9 ⟨u, rfl, HU, HVU, hb9⟩)
    | (go_at_call_of 15 m; refine Calls.mono (pow_any ((m : Int) + (160 - b)) w9 (by omega) (by omega)) ?_; rintro e w10 ⟨v1, rfl, HV1, HVV1, hb10⟩)
    | (go_at_call_of 15 n; refine Calls.mono (pow_any ((n : Int) + (160 - b)) w10 (by omega) (by omega)) ?_; rintro e w11 ⟨v2, rfl, HV2, HVV2, hb11⟩)
    | (go_at_call_of 14 v1; refine Calls.mono (sub_any v1 v2 w11 HV1.out HV2.out) ?_; rintro e w12 ⟨u2, rfl, HU2, HVU2, hb12⟩))
  have y8 := Nat.le_trans z1 hb8.size
  have y9 := Nat.le_trans y8 hb9.size
  have y10 := Nat.le_trans y9 hb10.size
  have y11 := Nat.le_trans y10 hb11.size
  have B3 : Below w.heap.size w w12 := ((((B1.trans (hb8.mono z1)).trans (hb9.mono y8)).trans (hb10.mono y9)).trans (hb11.mono y10)).trans (hb12.mono y11)
  have EE : Hid (((List.range 20).all fun k => u k == u2 k) = true) := by
    refine all_of_val HU.out HU2.out ?_
    have f := HF.out
    rw [HVU.out, HVU2.out, HVY.out, HVY2.out, HVV1.out, HVV2.out, dist_val, Hs.out,
      show (m : Int) + s = ((m + s : Nat) : Int) by omega, show (n : Int) + s = ((n + s : Nat) : Int) by omega, powK_in (m + s) (by omega), powK_in (n + s) (by omega)]
  rw [run_equal_vec31, EE.out]
  simp only [Result.andThen_ok]
  go_wp2
  go_ret
  exact ⟨rfl, B3⟩
end Go.Proofs.Qxb6608999a
