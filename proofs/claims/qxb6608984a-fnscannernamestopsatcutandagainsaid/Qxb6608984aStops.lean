import Derived.Test.Qxb6608984aScan
import Derived.Deep.DeepCutAuto
namespace Go.Proofs.Qxb6608984a
open Go.ChangeShapes Go.WideShapes Go.ChangeAt Go.RowKit
set_option linter.unusedVariables false

theorem byte_bd' (s : ByteArray) (k : Nat) (h : k < s.size) : 0 ≤ ((s[k]'h).toNat : Int) ∧ ((s[k]'h).toNat : Int) ≤ 255 := ⟨by omega, by have := (s[k]'h).toNat_lt; omega⟩

/-! The plain law: the text cut at j. -/
theorem size_cut (s : ByteArray) (j : Nat) (hj : j ≤ s.size) : (s.extract 0 j).size = j := by rw [ByteArray.size_extract]; omega

theorem nbAt_cut (s : ByteArray) (j k : Nat) (hj : j ≤ s.size) : nbAt (s.extract 0 j) k = if k < j then nbAt s k else false := by
  by_cases h : k < j
  · have h1 : k < (s.extract 0 j).size := by rw [size_cut s j hj]; exact h
    rw [if_pos h, nbAt_in h1, nbAt_in (show k < s.size by omega), ByteArray.getElem_extract]
    simp
  · rw [if_neg h, nbAt_out (by rw [size_cut s j hj]; exact h)]

theorem end_cut (s : ByteArray) (i j e e2 : Nat) (hj : j ≤ s.size) (hij : i ≤ j) (h : IsEnd s i e) (h2 : IsEnd (s.extract 0 j) i e2) : e2 = min j e := by
  refine h2.unique ⟨by have := h.le; omega, by rw [size_cut s j hj]; omega, fun k hk1 hk2 => ?_, ?_⟩
  · rw [nbAt_cut s j k hj, if_pos (by omega)]; exact h.run k hk1 (by omega)
  · rw [nbAt_cut s j _ hj]
    split
    · rw [show min j e = e by omega]; exact h.stop
    · rfl

theorem extract_cut (s : ByteArray) (i j e : Nat) (he : e ≤ j) : (s.extract 0 j).extract i e = s.extract i e := by
  rw [ByteArray.extract_extract, Nat.zero_add, Nat.zero_add, Nat.min_eq_left he]

theorem end_self (s : ByteArray) (i e e3 : Nat) (h : IsEnd s i e) (h3 : IsEnd s e e3) : e3 = e :=
  h3.unique ⟨Nat.le_refl _, h.size, fun k h1 h2 => by omega, h.stop⟩

theorem end_pos (s : ByteArray) (i e : Nat) (h : IsEnd s i e) : i < e ↔ nbAt s i = true := by
  constructor
  · intro h1; exact h.run i (Nat.le_refl _) h1
  · intro h1
    rcases Nat.lt_or_ge i e with h2 | h2
    · exact h2
    · have : i = e := by have := h.le; omega
      rw [this, h.stop] at h1; cases h1

theorem read_some (s : ByteArray) (n e : Nat) (h : IsEnd s n e) : decide (0 < e - n) = nbAt s n := by
  rw [Bool.eq_iff_iff, ← end_pos s n e h]
  simp; omega

theorem extract_self (s : ByteArray) (e : Nat) : s.extract e e = ByteArray.empty := by
  apply ByteArray.ext_getElem
  · rw [ByteArray.size_extract]; simp; omega
  · intro i hi; rw [ByteArray.size_extract] at hi; omega

set_option maxRecDepth 100000 in
set_option maxHeartbeats 2000000 in
theorem stops_law (s bl : ByteArray) (i j : Int) (w : World) (hs : s.size ≤ 9223372036854775807) (hb : bl.size ≤ 9223372036854775807) (i0 : -9223372036854775808 ≤ i) (i1 : i ≤ 9223372036854775807) (j0 : -9223372036854775808 ≤ j) (j1 : j ≤ 9223372036854775807) :
    Calls Try.prog 6 #[.string s, .int .i64 i, .string bl, .int .i64 j] w fun e w' => e = .returned (.bool true) ∧ Below w.heap.size w w' := by
  by_cases c1 : 1048576 < s.size + bl.size
  · go_enter Try.func6, Try.ntmps6
    go_wp2_with fail
    refine (bytes18_no s bl _ _ _ hs hb c1).mono ?_
    rintro e w1 ⟨rfl, rfl⟩
    go_wp2
    go_ret
    exact ⟨rfl, Below.refl _ _⟩
  by_cases c2 : 65536 < s.size
  · go_enter Try.func6, Try.ntmps6
    go_wp2_with fail
    refine (bytes18_yes s bl _ _ _ (by omega) (by omega)).mono ?_
    rintro e w1 ⟨rfl, rfl⟩
    go_wp2
    go_ret
    exact ⟨rfl, Below.refl _ _⟩
  by_cases c3 : 65536 < bl.size
  · go_enter Try.func6, Try.ntmps6
    go_wp2_with fail
    refine (bytes18_yes s bl _ _ _ (by omega) (by omega)).mono ?_
    rintro e w1 ⟨rfl, rfl⟩
    go_wp2
    go_ret
    exact ⟨rfl, Below.refl _ _⟩
  by_cases c4 : i < 0
  · go_enter Try.func6, Try.ntmps6
    go_wp2_with fail
    refine (bytes18_yes s bl _ _ _ (by omega) (by omega)).mono ?_
    rintro e w1 ⟨rfl, rfl⟩
    go_wp2
    go_ret
    exact ⟨rfl, Below.refl _ _⟩
  by_cases c5 : (s.size : Int) < i
  · go_enter Try.func6, Try.ntmps6
    go_wp2_with fail
    refine (bytes18_yes s bl _ _ _ (by omega) (by omega)).mono ?_
    rintro e w1 ⟨rfl, rfl⟩
    go_wp2
    go_ret
    exact ⟨rfl, Below.refl _ _⟩
  obtain ⟨n, rfl⟩ := Int.eq_ofNat_of_zero_le (show 0 ≤ i by omega)
  go_enter Try.func6, Try.ntmps6
  go_wp2_with fail
  refine (bytes18_yes s bl _ _ _ (by omega) (by omega)).mono ?_
  rintro e w1 ⟨rfl, rfl⟩
  go_wp2_with fail
  refine (scan_any s bl n _ (by omega) (by omega)).mono ?_
  rintro x w1 ⟨e, rfl, HE, hb1⟩
  have hne := HE.out.le
  have hes := HE.out.size
  have hd1 : decide (e < n) = false := by simp; omega
  have hd2 : decide (s.size < e) = false := by simp; omega
  have HSZ : Hid ((s.extract n e).size = e - n) := by show _ = _; rw [ByteArray.size_extract]; omega
  go_upto_region 10 with fail
  go_cut [67] (fun v wc => v = .bool false ∧ wc = w1)
  case first =>
    by_cases hse : n < s.size
    · have hse' : (n : Int) < (s.size : Int) := by omega
      go_wp2_with fail
      refine (nameByte_any _ _ (byte_bd' s n hse).1 (byte_bd' s n hse).2).mono ?_
      rintro x w2 ⟨rfl, rfl⟩
      rw [← nbAt_in hse]
      go_wp2
      go_meet
      case rel => exact ⟨by rw [read_some s n e HE.out]; simp, rfl⟩
    · have hse' : ¬ (n : Int) < (s.size : Int) := by omega
      go_wp2
      go_meet
      case rel => exact ⟨by congr 1; simp; omega, rfl⟩
  case rest =>
    obtain ⟨rfl, rfl⟩ := hcut
    go_wp2_with fail
    refine (scan_any s bl e _ (by omega) (by omega)).mono ?_
    rintro x w3 ⟨e3, rfl, HE3, hb3⟩
    obtain rfl : e3 = e := end_self s n e e3 HE.out HE3.out
    rw [extract_self s e3]
    have B3 := hb1.trans (hb3.mono hb1.size)
    by_cases hj1 : (n : Int) ≤ j
    · by_cases hj2 : j ≤ (s.size : Int)
      · obtain ⟨t, rfl⟩ := Int.eq_ofNat_of_zero_le (show 0 ≤ j by omega)
        have hcs := size_cut s t (by omega)
        have HCS : Hid ((s.extract 0 t).size = t) := hcs
        clear hcs
        by_cases hte : t < e3
        · have hte' : (t : Int) < (e3 : Int) := by omega
          go_wp2_with fail
          refine (scan_any (s.extract 0 t) bl n _ (by rw [HCS.out]; omega) (by rw [HCS.out]; omega)).mono ?_
          rintro x w5 ⟨e5, rfl, HE5, hb5⟩
          obtain rfl : e5 = t := by have := end_cut s n t e3 e5 (by omega) (by omega) HE.out HE5.out; omega
          rw [extract_cut s n e5 e5 (Nat.le_refl _)]
          go_wp2
          go_ret
          exact ⟨rfl, B3.trans (hb5.mono B3.size)⟩
        · have hte' : ¬ (t : Int) < (e3 : Int) := by omega
          go_wp2_with fail
          refine (scan_any (s.extract 0 t) bl n _ (by rw [HCS.out]; omega) (by rw [HCS.out]; omega)).mono ?_
          rintro x w5 ⟨e5, rfl, HE5, hb5⟩
          obtain rfl : e5 = e3 := by have := end_cut s n t e3 e5 (by omega) (by omega) HE.out HE5.out; omega
          rw [extract_cut s n t e5 (by omega)]
          go_wp2
          go_ret
          exact ⟨rfl, B3.trans (hb5.mono B3.size)⟩
      · have hj2' : ¬ j ≤ (s.size : Int) := hj2
        go_wp2
        go_ret
        exact ⟨rfl, B3⟩
    · go_wp2
      go_ret
      exact ⟨rfl, B3⟩
end Go.Proofs.Qxb6608984a
