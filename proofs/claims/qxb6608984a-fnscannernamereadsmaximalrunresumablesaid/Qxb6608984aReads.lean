import Derived.Test.Qxb6608984aScan
namespace Go.Proofs.Qxb6608984a
open Go.ChangeShapes Go.WideShapes Go.ChangeAt Go.RowKit
set_option linter.unusedVariables false

theorem byte_bd (s : ByteArray) (k : Nat) (h : k < s.size) : 0 ≤ ((s[k]'h).toNat : Int) ∧ ((s[k]'h).toNat : Int) ≤ 255 := ⟨by omega, by have := (s[k]'h).toNat_lt; omega⟩

set_option maxHeartbeats 2000000 in
theorem reads_law (s bl : ByteArray) (i j : Int) (w : World) (hs : s.size ≤ 9223372036854775807) (hb : bl.size ≤ 9223372036854775807) (i0 : -9223372036854775808 ≤ i) (i1 : i ≤ 9223372036854775807) (j0 : -9223372036854775808 ≤ j) (j1 : j ≤ 9223372036854775807) :
    Calls Try.prog 5 #[.string s, .int .i64 i, .string bl, .int .i64 j] w fun e w' => e = .returned (.bool true) ∧ Below w.heap.size w w' := by
  by_cases c1 : 1048576 < s.size + bl.size
  · go_enter Try.func5, Try.ntmps5
    go_wp2_with fail
    refine (bytes15_no s bl _ _ _ hs hb c1).mono ?_
    rintro e w1 ⟨rfl, rfl⟩
    go_wp2
    go_ret
    exact ⟨rfl, Below.refl _ _⟩
  by_cases c2 : 65536 < s.size
  · go_enter Try.func5, Try.ntmps5
    go_wp2_with fail
    refine (bytes15_yes s bl _ _ _ (by omega) (by omega)).mono ?_
    rintro e w1 ⟨rfl, rfl⟩
    go_wp2
    go_ret
    exact ⟨rfl, Below.refl _ _⟩
  by_cases c3 : 65536 < bl.size
  · go_enter Try.func5, Try.ntmps5
    go_wp2_with fail
    refine (bytes15_yes s bl _ _ _ (by omega) (by omega)).mono ?_
    rintro e w1 ⟨rfl, rfl⟩
    go_wp2
    go_ret
    exact ⟨rfl, Below.refl _ _⟩
  by_cases c4 : i < 0
  · go_enter Try.func5, Try.ntmps5
    go_wp2_with fail
    refine (bytes15_yes s bl _ _ _ (by omega) (by omega)).mono ?_
    rintro e w1 ⟨rfl, rfl⟩
    go_wp2
    go_ret
    exact ⟨rfl, Below.refl _ _⟩
  by_cases c5 : (s.size : Int) < i
  · go_enter Try.func5, Try.ntmps5
    go_wp2_with fail
    refine (bytes15_yes s bl _ _ _ (by omega) (by omega)).mono ?_
    rintro e w1 ⟨rfl, rfl⟩
    go_wp2
    go_ret
    exact ⟨rfl, Below.refl _ _⟩
  obtain ⟨n, rfl⟩ := Int.eq_ofNat_of_zero_le (show 0 ≤ i by omega)
  go_enter Try.func5, Try.ntmps5
  go_wp2_with fail
  refine (bytes15_yes s bl _ _ _ (by omega) (by omega)).mono ?_
  rintro e w1 ⟨rfl, rfl⟩
  go_wp2_with fail
  refine (scan_any s bl n _ (by omega) (by omega)).mono ?_
  rintro x w1 ⟨e, rfl, HE, hb1⟩
  have hne := HE.out.le
  have hes := HE.out.size
  have hd1 : decide (e < n) = false := by simp; omega
  have hd2 : decide (s.size < e) = false := by simp; omega
  go_wp2
  go_loopg [11] (e - n) (fun g v wr => ∃ k : Nat, k + g = e ∧ n ≤ k ∧ v = .int .i64 k ∧ wr = w1)
  case atStart => exact ⟨n, by omega, Nat.le_refl _, rfl, rfl⟩
  case round =>
    obtain ⟨k, hk1, hk2, rfl, rfl⟩ := hrel
    by_cases hlt : k < e
    · have hks : k < s.size := by omega
      have hks' : (k : Int) < (s.size : Int) := by omega
      have hlt' : (k : Int) < (e : Int) := by omega
      have HY : Hid (nbI ((s[k]'hks).toNat : Int) = true) := by rw [← nbAt_in hks]; exact HE.out.run k hk2 hlt
      go_wp2_with fail
      refine (nameByte_any _ _ (byte_bd s k hks).1 (byte_bd s k hks).2).mono ?_
      rintro x w2 ⟨rfl, rfl⟩
      rw [HY.out]
      go_wp2
      go_roundg (gk - 1)
      case measure => omega
      case rel => exact ⟨k + 1, by omega, by omega, by go_num, rfl⟩
    · obtain rfl : k = e := by omega
      have hlt' : ¬ (k : Int) < (k : Int) := by omega
      by_cases hse : k < s.size
      · have hse' : (k : Int) < (s.size : Int) := by omega
        have HN : Hid (nbI ((s[k]'hse).toNat : Int) = false) := by rw [← nbAt_in hse]; exact HE.out.stop
        by_cases hj1 : (n : Int) ≤ j
        · by_cases hj2 : j ≤ (k : Int)
          · obtain ⟨t, rfl⟩ := Int.eq_ofNat_of_zero_le (show 0 ≤ j by omega)
            go_wp2_with fail
            refine (nameByte_any _ _ (byte_bd s k hse).1 (byte_bd s k hse).2).mono ?_
            rintro x w2 ⟨rfl, rfl⟩
            rw [HN.out]
            go_wp2_with fail
            refine (scan_any s bl t _ (by omega) (by omega)).mono ?_
            rintro x w3 ⟨e2, rfl, HE2, hb3⟩
            obtain rfl : e2 = k := HE2.out.unique (HE.out.later (by omega) (by omega))
            go_wp2
            go_ret
            exact ⟨rfl, hb1.trans (hb3.mono hb1.size)⟩
          · have hj2' : ¬ j ≤ (k : Int) := hj2
            go_wp2_with fail
            refine (nameByte_any _ _ (byte_bd s k hse).1 (byte_bd s k hse).2).mono ?_
            rintro x w2 ⟨rfl, rfl⟩
            rw [HN.out]
            go_wp2
            go_ret
            exact ⟨rfl, hb1⟩
        · go_wp2_with fail
          refine (nameByte_any _ _ (byte_bd s k hse).1 (byte_bd s k hse).2).mono ?_
          rintro x w2 ⟨rfl, rfl⟩
          rw [HN.out]
          go_wp2
          go_ret
          exact ⟨rfl, hb1⟩
      · have hse' : ¬ (k : Int) < (s.size : Int) := by omega
        by_cases hj1 : (n : Int) ≤ j
        · by_cases hj2 : j ≤ (k : Int)
          · obtain ⟨t, rfl⟩ := Int.eq_ofNat_of_zero_le (show 0 ≤ j by omega)
            go_wp2_with fail
            refine (scan_any s bl t _ (by omega) (by omega)).mono ?_
            rintro x w3 ⟨e2, rfl, HE2, hb3⟩
            obtain rfl : e2 = k := HE2.out.unique (HE.out.later (by omega) (by omega))
            go_wp2
            go_ret
            exact ⟨rfl, hb1.trans (hb3.mono hb1.size)⟩
          · have hj2' : ¬ j ≤ (k : Int) := hj2
            go_wp2
            go_ret
            exact ⟨rfl, hb1⟩
        · go_wp2
          go_ret
          exact ⟨rfl, hb1⟩
end Go.Proofs.Qxb6608984a
