import Derived.Test.Qxb6615076aPow
import Derived.Test.Qxb6615076aFits
import Derived.Test.Qxb6615076aClone
import Derived.Test.Qxb6615076aZbytes
namespace Go.Proofs.Qxb6615076a
open Go.ChangeShapes Go.WideShapes Go.ChangeAt Go.RowKit
set_option linter.unusedVariables false

/-- What zzCloneBytes leaves of L bytes d. -/
def ClonePost (L : Nat) (d : Nat → Int) (W : World) (e : Ending) (w' : World) : Prop :=
  ∃ (ao : Option Addr) (c' q : Nat), e = .returned (.slice ao L c') ∧ Below W.heap.size W w' ∧ (0 < L → ao = some ⟨q, 0, none⟩ ∧ c' = L ∧ q < w'.heap.size ∧ ∀ i, i < L → w'.cell? ⟨q, i, none⟩ = some (.int .u8 (d i)))

/-- The bytes as they came in. -/
def BytesAt (w : World) (a : Option Addr) (L c : Nat) (d : Nat → Int) : Prop :=
  (a = none ∧ L = 0 ∧ c = 0) ∨ (∃ ad, a = some ad ∧ L = 0) ∨ (∃ b off, a = some ⟨b, off, none⟩ ∧ b < w.heap.size ∧ ∀ i, i < L → w.cell? ⟨b, off + i, none⟩ = some (.int .u8 (d i)))

theorem clone_any (w W : World) (a : Option Addr) (L c : Nat) (d : Nat → Int) (h : BytesAt w a L c d) (hL : L ≤ 65536) (hb : Below w.heap.size w W) :
    Calls Try.prog 12 #[.slice a L c] W (ClonePost L d W) := by
  rcases h with ⟨rfl, rfl, rfl⟩ | ⟨ad, rfl, rfl⟩ | ⟨b, off, rfl, hlt, hc⟩
  · refine (clone_nil W).mono ?_
    rintro e w' ⟨rfl, rfl⟩
    exact ⟨none, 0, 0, rfl, Below.refl _ _, fun h => absurd h (by omega)⟩
  · refine (clone_empty ad c W).mono ?_
    rintro e w' ⟨rfl, h⟩
    exact ⟨_, 0, 0, rfl, h, fun h => absurd h (by omega)⟩
  · refine (clone_some b off L c d W hL (Nat.lt_of_lt_of_le hlt hb.size) (fun i hi => by rw [hb.cell (p := ⟨b, off + i, none⟩) hlt]; exact hc i hi)).mono ?_
    rintro e w' ⟨rfl, h1, h2⟩
    exact ⟨_, L, W.heap.size, rfl, h1, fun _ => ⟨rfl, rfl, h2.lt, fun i hi => h2.cell hi⟩⟩

theorem sig_ok {bs ss L : Nat} {sz : Int} {d : Nat → Int} (hf : Fits bs sz ss L) (hd : ∀ i, 0 ≤ d i ∧ d i ≤ 255) (hL : L ≤ 65536) (hz : sz ≤ 9223372036854775807) : SigOk L ss (sz / bs).toNat bs sz d := by
  obtain ⟨h1, h2, h3, h4, h5, h6, h7, h8⟩ := hf
  have h9 : 0 ≤ sz / bs := Int.ediv_nonneg h3 (by omega)
  refine ⟨hd, h1, h2, h3, hz, (Int.toNat_of_nonneg h9).symm, by omega, by omega, hL, ?_⟩
  have : (((sz / bs).toNat * (4 + ss) : Nat) : Int) ≤ L := by
    rw [Int.natCast_mul, Int.toNat_of_nonneg h9]
    have e : ((4 + ss : Nat) : Int) = 4 + (ss : Int) := by omega
    rw [e]; exact h7
  omega

theorem differPow_any (dp : Nat) (pw : Int) (w : World) (c5 : w.cell? ⟨dp, 5, none⟩ = some (.int .u32 pw)) :
    Calls Try.prog 19 #[.pointer (some ⟨dp, 0, none⟩)] w fun e w' => e = .returned (.int .u32 pw) ∧ w' = w := by
  go_enter Try.func19, Try.ntmps19
  go_wp2
  go_ret
  exact ⟨rfl, rfl⟩

theorem sigAt_box (w2 : World) (k0 k1 k2 k3 k4 k5 k6 k7 k8 k9 k10 k11 k12 k13 k14 k15 : Value) (q L sn n : Nat) (bs sz : Int) (d : Nat → Int) (ao : Option Addr) (c' : Nat)
    (hcl : 0 < L → ao = some ⟨q, 0, none⟩ ∧ c' = L ∧ q < w2.heap.size ∧ ∀ i, i < L → w2.cell? ⟨q, i, none⟩ = some (.int .u8 (d i))) (hn : 0 < n → 0 < L) :
    SigAt (w2.alloc (.cells #[.int .i64 bs, .int .i64 sz, k0, k1, k2, k3, k4, k5, k6, k7, k8, k9, k10, k11, k12, k13, k14, k15, .int .i64 sn, .slice ao L c'] 29)) w2.heap.size q L sn n bs sz d where
  c0 := by simp
  c1 := by simp
  c18 := by simp
  c19 h := by obtain ⟨rfl, rfl, _, _⟩ := hcl (hn h); simp
  hc h i hi := by
    obtain ⟨_, _, h1, h2⟩ := hcl (hn h)
    rw [((Below.refl w2.heap.size w2).alloc (Nat.le_refl _) _).cell (p := ⟨q, i, none⟩) h1]
    exact h2 i hi

theorem n_pos {bs sz ss : Int} {L : Nat} (hf : Fits bs sz ss L) : 0 < (sz / bs).toNat → 0 < L := by
  intro h
  rcases Nat.eq_zero_or_pos L with h0 | h0
  · have := hf.2.2.2.2.2.2.2 h0; omega
  · exact h0

set_option maxRecDepth 100000 in
set_option maxHeartbeats 2000000 in
theorem pow_law (bs sz ss : Int) (x0 x1 x2 x3 x4 x5 x6 x7 x8 x9 x10 x11 x12 x13 x14 x15 : Int) (a : Option Addr) (L c : Nat) (d : Nat → Int) (w : World) (hb0 : -9223372036854775808 ≤ bs) (hb1 : bs ≤ 9223372036854775807) (hz1 : sz ≤ 9223372036854775807) (hs0 : -9223372036854775808 ≤ ss) (hs1 : ss ≤ 9223372036854775807) (hLm : L ≤ 9223372036854775807)
    (hd : ∀ i, 0 ≤ d i ∧ d i ≤ 255) (hby : BytesAt w a L c d) :
    Calls Try.prog 6 #[.int .i64 bs, .int .i64 sz, .agg #[.int .u8 x0, .int .u8 x1, .int .u8 x2, .int .u8 x3, .int .u8 x4, .int .u8 x5, .int .u8 x6, .int .u8 x7, .int .u8 x8, .int .u8 x9, .int .u8 x10, .int .u8 x11, .int .u8 x12, .int .u8 x13, .int .u8 x14, .int .u8 x15], .int .i64 ss, .slice a L c] w fun e w' => e = .returned (.bool true) ∧ Below w.heap.size w w' := by
  have B0 : Below w.heap.size w (w.alloc (.cells #[.int .u8 x0, .int .u8 x1, .int .u8 x2, .int .u8 x3, .int .u8 x4, .int .u8 x5, .int .u8 x6, .int .u8 x7, .int .u8 x8, .int .u8 x9, .int .u8 x10, .int .u8 x11, .int .u8 x12, .int .u8 x13, .int .u8 x14, .int .u8 x15] 26)) := (Below.refl _ _).alloc (Nat.le_refl _) _
  by_cases c1 : 1048576 < L
  · clear hby hd
    go_enter Try.func6, Try.ntmps6
    go_wp2_with fail
    refine (bytes18_no _ _ _ _ _ _ _ _ c1 hLm).mono ?_
    rintro e w1 ⟨rfl, hb⟩
    go_wp2
    go_ret
    exact ⟨rfl, B0.trans (hb.mono (by simp))⟩
  by_cases c2 : 65536 < L
  · clear hby hd
    go_enter Try.func6, Try.ntmps6
    go_wp2_with fail
    refine (bytes18 _ _ _ _ _ _ _ _ (by omega)).mono ?_
    rintro e w1 ⟨rfl, hb⟩
    go_wp2
    go_ret
    exact ⟨rfl, B0.trans (hb.mono (by simp))⟩
  by_cases hf : Fits bs sz ss L
  · obtain ⟨bn, rfl⟩ := Int.eq_ofNat_of_zero_le (show 0 ≤ bs by have := hf.1; omega)
    obtain ⟨sn, rfl⟩ := Int.eq_ofNat_of_zero_le hf.2.2.2.1
    have OK : Hid (SigOk L sn (sz / (bn : Int)).toNat bn sz d) := sig_ok hf hd (by omega) hz1
    have HBY : Hid (BytesAt w a L c d) := hby
    have hbn : bn ≤ 65536 := by have := hf.2.1; omega
    have hbn1 : 1 ≤ bn := by have := hf.1; omega
    have HF : Hid (Fits bn sz sn L) := hf
    clear hf hby hd
    go_enter Try.func6, Try.ntmps6
    go_wp2_with fail
    refine (bytes18 _ _ _ _ _ _ _ _ (by omega)).mono ?_
    rintro e w1 ⟨rfl, hb⟩
    go_wp2_with fail
    refine (fits_any bn sz sn a L c _ hb0 hb1 hz1 hs0 hs1 (by omega)).mono ?_
    rintro e w1' ⟨b, rfl, hbf, rfl⟩
    clear hbf
    have B1 := B0.trans (hb.mono (by simp))
    cases b with
    | false =>
      go_wp2
      go_ret
      exact ⟨rfl, B1⟩
    | true =>
    go_wp2_with fail
    refine (clone_any w _ a L c d HBY.out (by omega) B1).mono ?_
    rintro e w2 ⟨ao, c', q, rfl, hg2, hcl⟩
    have B2 := B1.trans (hg2.mono B1.size)
    have HCL : Hid (0 < L → ao = some ⟨q, 0, none⟩ ∧ c' = L ∧ q < w2.heap.size ∧ ∀ i, i < L → w2.cell? ⟨q, i, none⟩ = some (.int .u8 (d i))) := hcl
    have hks : w.heap.size < w1'.heap.size := by have := hb.size; simp at this; omega
    have hkey : ∀ o, w2.cell? ⟨w.heap.size, o, none⟩ = (w.alloc (.cells #[.int .u8 x0, .int .u8 x1, .int .u8 x2, .int .u8 x3, .int .u8 x4, .int .u8 x5, .int .u8 x6, .int .u8 x7, .int .u8 x8, .int .u8 x9, .int .u8 x10, .int .u8 x11, .int .u8 x12, .int .u8 x13, .int .u8 x14, .int .u8 x15] 26)).cell? ⟨w.heap.size, o, none⟩ := by
      intro o
      rw [hg2.cell (p := ⟨w.heap.size, o, none⟩) hks, hb.cell (p := ⟨w.heap.size, o, none⟩) (by simp)]
    have e0 : w2.cell? ⟨w.heap.size, 0, none⟩ = some (.int .u8 x0) := by rw [hkey]; simp
    have e1 : w2.cell? ⟨w.heap.size, 1, none⟩ = some (.int .u8 x1) := by rw [hkey]; simp
    have e2 : w2.cell? ⟨w.heap.size, 2, none⟩ = some (.int .u8 x2) := by rw [hkey]; simp
    have e3 : w2.cell? ⟨w.heap.size, 3, none⟩ = some (.int .u8 x3) := by rw [hkey]; simp
    have e4 : w2.cell? ⟨w.heap.size, 4, none⟩ = some (.int .u8 x4) := by rw [hkey]; simp
    have e5 : w2.cell? ⟨w.heap.size, 5, none⟩ = some (.int .u8 x5) := by rw [hkey]; simp
    have e6 : w2.cell? ⟨w.heap.size, 6, none⟩ = some (.int .u8 x6) := by rw [hkey]; simp
    have e7 : w2.cell? ⟨w.heap.size, 7, none⟩ = some (.int .u8 x7) := by rw [hkey]; simp
    have e8 : w2.cell? ⟨w.heap.size, 8, none⟩ = some (.int .u8 x8) := by rw [hkey]; simp
    have e9 : w2.cell? ⟨w.heap.size, 9, none⟩ = some (.int .u8 x9) := by rw [hkey]; simp
    have e10 : w2.cell? ⟨w.heap.size, 10, none⟩ = some (.int .u8 x10) := by rw [hkey]; simp
    have e11 : w2.cell? ⟨w.heap.size, 11, none⟩ = some (.int .u8 x11) := by rw [hkey]; simp
    have e12 : w2.cell? ⟨w.heap.size, 12, none⟩ = some (.int .u8 x12) := by rw [hkey]; simp
    have e13 : w2.cell? ⟨w.heap.size, 13, none⟩ = some (.int .u8 x13) := by rw [hkey]; simp
    have e14 : w2.cell? ⟨w.heap.size, 14, none⟩ = some (.int .u8 x14) := by rw [hkey]; simp
    have e15 : w2.cell? ⟨w.heap.size, 15, none⟩ = some (.int .u8 x15) := by rw [hkey]; simp
    clear hkey hcl hg2 hb hks
    go_wp2_with fail
    refine (newDiffer_any w2.heap.size q L sn (sz / (bn : Int)).toNat bn sz d _ (sigAt_box w2 _ _ _ _ _ _ _ _ _ _ _ _ _ _ _ _ q L sn _ bn sz d ao c' HCL.out (n_pos HF.out)) OK.out (by simp) (fun h => by have := (HCL.out (n_pos HF.out h)).2.2.1; simp; omega)).mono ?_
    rintro e w3 ⟨dp, sp, np, sh, N, b, rfl, hsh, D⟩
    have B3 := B2.trans (((Below.refl _ _).alloc (Nat.le_refl w2.heap.size) _).mono B2.size) |>.trans (D.below.mono (by have := B2.size; simp; omega))
    have c5 := D.c5
    clear D e0 e1 e2 e3 e4 e5 e6 e7 e8 e9 e10 e11 e12 e13 e14 e15
    go_wp2_with fail
    refine (differPow_any dp _ _ c5).mono ?_
    rintro e w4 ⟨rfl, rfl⟩
    go_wp2_with fail
    refine (powSq_any bn _ hbn).mono ?_
    rintro e w4 ⟨rfl, rfl⟩
    go_wp2
    go_ret
    exact ⟨by simp, B3⟩
  · clear hby hd
    have HF : Hid (¬ Fits bs sz ss L) := hf
    clear hf
    go_enter Try.func6, Try.ntmps6
    go_wp2_with fail
    refine (bytes18 _ _ _ _ _ _ _ _ (by omega)).mono ?_
    rintro e w1 ⟨rfl, hb⟩
    go_wp2_with fail
    refine (fits_any bs sz ss a L c _ hb0 hb1 hz1 hs0 hs1 (by omega)).mono ?_
    rintro e w1 ⟨b, rfl, hbf, rfl⟩
    cases b with
    | true => exact absurd (hbf rfl) HF.out
    | false =>
      clear hbf
      go_wp2
      go_ret
      exact ⟨rfl, B0.trans (hb.mono (by simp))⟩
end Go.Proofs.Qxb6615076a
