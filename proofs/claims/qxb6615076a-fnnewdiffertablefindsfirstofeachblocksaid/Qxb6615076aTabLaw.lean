import Derived.Test.Qxb6615076aPowLaw
import Derived.Test.Qxb6615076aChunk
import Derived.Test.Qxb6615076aChain
import Derived.Deep.CutBlock
import Derived.Deep.DeepCutAuto
import Derived.Deep.LoopGhost
namespace Go.Proofs.Qxb6615076a
open Go.ChangeShapes Go.WideShapes Go.ChangeAt Go.RowKit
set_option linter.unusedVariables false

theorem head_at (d : Nat → Int) (ss sh k n : Nat) : headV (sameB d ss) (slotB d ss sh) n (slotN sh (wkv d ss k)) - 1 = prevI (inSlot (sameB d ss) (slotB d ss sh) (slotB d ss sh k)) n := by
  show prevI _ n + 1 - 1 = _
  rw [Int.add_sub_cancel]
  rfl

set_option maxRecDepth 100000 in
set_option maxHeartbeats 2000000 in
theorem table_law (bs sz ss : Int) (x0 x1 x2 x3 x4 x5 x6 x7 x8 x9 x10 x11 x12 x13 x14 x15 : Int) (a : Option Addr) (L c : Nat) (d : Nat → Int) (w : World) (hb0 : -9223372036854775808 ≤ bs) (hb1 : bs ≤ 9223372036854775807) (hz1 : sz ≤ 9223372036854775807) (hs0 : -9223372036854775808 ≤ ss) (hs1 : ss ≤ 9223372036854775807) (hLm : L ≤ 9223372036854775807)
    (hd : ∀ i, 0 ≤ d i ∧ d i ≤ 255) (hby : BytesAt w a L c d) :
    Calls Try.prog 5 #[.int .i64 bs, .int .i64 sz, .agg #[.int .u8 x0, .int .u8 x1, .int .u8 x2, .int .u8 x3, .int .u8 x4, .int .u8 x5, .int .u8 x6, .int .u8 x7, .int .u8 x8, .int .u8 x9, .int .u8 x10, .int .u8 x11, .int .u8 x12, .int .u8 x13, .int .u8 x14, .int .u8 x15], .int .i64 ss, .slice a L c] w fun e w' => e = .returned (.bool true) ∧ Below w.heap.size w w' := by
  have B0 : Below w.heap.size w (w.alloc (.cells #[.int .u8 x0, .int .u8 x1, .int .u8 x2, .int .u8 x3, .int .u8 x4, .int .u8 x5, .int .u8 x6, .int .u8 x7, .int .u8 x8, .int .u8 x9, .int .u8 x10, .int .u8 x11, .int .u8 x12, .int .u8 x13, .int .u8 x14, .int .u8 x15] 26)) := (Below.refl _ _).alloc (Nat.le_refl _) _
  by_cases c1 : 1048576 < L
  · clear hby hd
    go_enter Try.func5, Try.ntmps5
    go_wp2_with fail
    refine (bytes10_no _ _ _ _ _ _ _ _ c1 hLm).mono ?_
    rintro e w1 ⟨rfl, hb⟩
    go_wp2
    go_ret
    exact ⟨rfl, B0.trans (hb.mono (by simp))⟩
  by_cases c2 : 65536 < L
  · clear hby hd
    go_enter Try.func5, Try.ntmps5
    go_wp2_with fail
    refine (bytes10 _ _ _ _ _ _ _ _ (by omega)).mono ?_
    rintro e w1 ⟨rfl, hb⟩
    go_wp2
    go_ret
    exact ⟨rfl, B0.trans (hb.mono (by simp))⟩
  by_cases hf : Fits bs sz ss L
  · obtain ⟨bn, rfl⟩ := Int.eq_ofNat_of_zero_le (show 0 ≤ bs by have := hf.1; omega)
    obtain ⟨sn, rfl⟩ := Int.eq_ofNat_of_zero_le hf.2.2.2.1
    have ok := sig_ok hf hd (by omega) hz1
    have hnL := n_pos hf
    obtain ⟨n, hn⟩ : ∃ n : Nat, n = (sz / (bn : Int)).toNat := ⟨_, rfl⟩
    rw [← hn] at ok hnL
    have OK : Hid (SigOk L sn n bn sz d) := ok
    have hn1 := ok.n1
    have hs1' := ok.ss1
    have hz0 := ok.s0
    have hdiv : sz / (bn : Int) = (n : Int) := ok.whole
    have HNL : Hid (0 < n → 0 < L) := hnL
    clear ok hn hnL
    have HBY : Hid (BytesAt w a L c d) := hby
    have hbn : bn ≤ 65536 := by have := hf.2.1; omega
    have hbn1 : 1 ≤ bn := by have := hf.1; omega
    have HF : Hid (Fits bn sz sn L) := hf
    clear hf hby hd
    go_enter Try.func5, Try.ntmps5
    go_wp2_with fail
    refine (bytes10 _ _ _ _ _ _ _ _ (by omega)).mono ?_
    rintro e w1 ⟨rfl, hb⟩
    go_wp2_with fail
    refine (fits_any bn sz sn a L c _ hb0 hb1 hz1 hs0 hs1 (by omega)).mono ?_
    rintro e w1' ⟨b, rfl, hbf, rfl⟩
    clear hbf
    have B1 := B0.trans (hb.mono (by simp))
    cases b with
    | false =>
      go_wp2
      go_ret
      exact ⟨rfl, B1⟩
    | true =>
    go_wp2_with fail
    refine (clone_any w _ a L c d HBY.out (by omega) B1).mono ?_
    rintro e w2 ⟨ao, c', q, rfl, hg2, hcl⟩
    have B2 := B1.trans (hg2.mono B1.size)
    have HCL : Hid (0 < L → ao = some ⟨q, 0, none⟩ ∧ c' = L ∧ q < w2.heap.size ∧ ∀ i, i < L → w2.cell? ⟨q, i, none⟩ = some (.int .u8 (d i))) := hcl
    have hks : w.heap.size < w1'.heap.size := by have := hb.size; simp at this; omega
    have hkey : ∀ o, w2.cell? ⟨w.heap.size, o, none⟩ = (w.alloc (.cells #[.int .u8 x0, .int .u8 x1, .int .u8 x2, .int .u8 x3, .int .u8 x4, .int .u8 x5, .int .u8 x6, .int .u8 x7, .int .u8 x8, .int .u8 x9, .int .u8 x10, .int .u8 x11, .int .u8 x12, .int .u8 x13, .int .u8 x14, .int .u8 x15] 26)).cell? ⟨w.heap.size, o, none⟩ := by
      intro o
      rw [hg2.cell (p := ⟨w.heap.size, o, none⟩) hks, hb.cell (p := ⟨w.heap.size, o, none⟩) (by simp)]
    have e0 : w2.cell? ⟨w.heap.size, 0, none⟩ = some (.int .u8 x0) := by rw [hkey]; simp
    have e1 : w2.cell? ⟨w.heap.size, 1, none⟩ = some (.int .u8 x1) := by rw [hkey]; simp
    have e2 : w2.cell? ⟨w.heap.size, 2, none⟩ = some (.int .u8 x2) := by rw [hkey]; simp
    have e3 : w2.cell? ⟨w.heap.size, 3, none⟩ = some (.int .u8 x3) := by rw [hkey]; simp
    have e4 : w2.cell? ⟨w.heap.size, 4, none⟩ = some (.int .u8 x4) := by rw [hkey]; simp
    have e5 : w2.cell? ⟨w.heap.size, 5, none⟩ = some (.int .u8 x5) := by rw [hkey]; simp
    have e6 : w2.cell? ⟨w.heap.size, 6, none⟩ = some (.int .u8 x6) := by rw [hkey]; simp
    have e7 : w2.cell? ⟨w.heap.size, 7, none⟩ = some (.int .u8 x7) := by rw [hkey]; simp
    have e8 : w2.cell? ⟨w.heap.size, 8, none⟩ = some (.int .u8 x8) := by rw [hkey]; simp
    have e9 : w2.cell? ⟨w.heap.size, 9, none⟩ = some (.int .u8 x9) := by rw [hkey]; simp
    have e10 : w2.cell? ⟨w.heap.size, 10, none⟩ = some (.int .u8 x10) := by rw [hkey]; simp
    have e11 : w2.cell? ⟨w.heap.size, 11, none⟩ = some (.int .u8 x11) := by rw [hkey]; simp
    have e12 : w2.cell? ⟨w.heap.size, 12, none⟩ = some (.int .u8 x12) := by rw [hkey]; simp
    have e13 : w2.cell? ⟨w.heap.size, 13, none⟩ = some (.int .u8 x13) := by rw [hkey]; simp
    have e14 : w2.cell? ⟨w.heap.size, 14, none⟩ = some (.int .u8 x14) := by rw [hkey]; simp
    have e15 : w2.cell? ⟨w.heap.size, 15, none⟩ = some (.int .u8 x15) := by rw [hkey]; simp
    clear hkey hcl hg2 hb hks
    go_wp2_with fail
    refine (newDiffer_any w2.heap.size q L sn n bn sz d _ (sigAt_box w2 _ _ _ _ _ _ _ _ _ _ _ _ _ _ _ _ q L sn _ bn sz d ao c' HCL.out HNL.out) OK.out (by simp) (fun h => by have := (HCL.out (HNL.out h)).2.2.1; simp; omega)).mono ?_
    rintro e w3 ⟨dp, sp, np, sh, N, b, rfl, hsh, D⟩
    have B3 := B2.trans (((Below.refl _ _).alloc (Nat.le_refl w2.heap.size) _).mono B2.size) |>.trans (D.below.mono (by have := B2.size; simp; omega))
    have HD : Hid (DiffAt (w2.alloc (.cells _ 29)) w3 dp sp np sh N n (powW bn) d sn) := D
    clear D e0 e1 e2 e3 e4 e5 e6 e7 e8 e9 e10 e11 e12 e13 e14 e15
    have HDIV : Hid (sz / (bn : Int) = (n : Int)) := hdiv
    clear hdiv
    go_wp2
    rw [HDIV.out]
    by_cases hn0 : n = 0
    · have hn0' : (n : Int) = 0 := by omega
      rw [hn0']
      refine wp_loop_rounds 1 ?_
      rw [rounds_succ]
      go_wp2
      go_ret
      exact ⟨rfl, B3⟩
    obtain ⟨hao, hcL, hq, hcl⟩ := HCL.out (HNL.out (by omega))
    rw [hao, hcL]
    have hcl3 : ∀ i, i < L → w3.cell? ⟨q, i, none⟩ = some (.int .u8 (d i)) := by
      intro i hi
      rw [HD.out.below.cell (p := ⟨q, i, none⟩) (by simp; omega), ((Below.refl w2.heap.size w2).alloc (Nat.le_refl _) _).cell (p := ⟨q, i, none⟩) hq]
      exact hcl i hi
    have HC3 : Hid (∀ m i, i < L → (w3.drewN m).cell? ⟨q, i, none⟩ = some (.int .u8 (d i))) := fun m i hi => by simpa using hcl3 i hi
    have HOK : Hid (SameOk (sameB d sn) (slotB d sn sh)) := sameB_ok d sn sh
    have HROWS : Hid (TRows w3 sp np sh N n d sn) := HD.out.rows
    have HD1 : Hid (w3.cell? ⟨dp, 1, none⟩ = some (.int .u64 sh)) := HD.out.c1
    have HD2 : Hid (w3.cell? ⟨dp, 2, none⟩ = some (.slice (some ⟨sp, 0, none⟩) N N)) := HD.out.c2
    have HD3 : Hid (w3.cell? ⟨dp, 3, none⟩ = some (.slice (some ⟨np, 0, none⟩) n n)) := HD.out.c3
    clear hao hcL hq hcl hcl3 HCL HD HDIV HF HBY B0 B1 B2 hb0 hb1 hs0 hs1 hLm c1 c2
    go_loopg [15] n (fun g v wr => ∃ k m : Nat, k + g = n ∧ v = .int .i64 k ∧ wr = w3.drewN m)
    case atStart => exact ⟨0, 0, by omega, rfl, rfl⟩
    case round =>
      obtain ⟨k, m, hkg, rfl, rfl⟩ := hrel
      by_cases hlt : k < n
      · have hlt' : (k : Int) < (n : Int) := by omega
        go_upto_block 2 with fail
        go_cut [16] (fun v wc => ∃ j0 m' : Nat, v = .int .i64 j0 ∧ Hid (Least (sameB d sn) k j0) ∧ wc = w3.drewN m')
        case first =>
          go_wp2_with fail
          go_loopg [16, 17] k (fun g v16 v17 wi => ∃ t m' : Nat, t + g = k ∧ v16 = .int .i64 k ∧ v17 = .int .i64 t ∧ wi = w3.drewN m' ∧ Hid (∀ i, i < t → sameB d sn i k = false))
          case atStart => exact ⟨0, m, by omega, rfl, rfl, rfl, fun i h => by omega⟩
          case round =>
            obtain ⟨t, m', htg, rfl, rfl, rfl, H⟩ := hrel
            by_cases htk : t < k
            · have htk' : (t : Int) < (k : Int) := by omega
              go_wp2_with fail
              refine (chunk_sig q L L sn n t k d OK.out (by omega) hlt (HC3.out _)).mono ?_
              rintro e w4 ⟨rfl, m2, rfl⟩
              cases hb : sameB d sn t k with
              | true =>
                have HL : Hid (Least (sameB d sn) k t) := ⟨by omega, hb, H.out⟩
                clear hb
                go_wp2
                go_meet
                case rel => exact ⟨t, _, rfl, HL, rfl⟩
              | false =>
                have H2 : Hid (∀ i, i < t + 1 → sameB d sn i k = false) := fun i hi => by
                  by_cases e : i = t
                  · rw [e]; exact hb
                  · exact H.out i (by omega)
                clear hb
                go_wp2
                go_roundg (k - (t + 1))
                case measure => omega
                case rel => exact ⟨t + 1, _, by omega, rfl, by go_num, rfl, H2⟩
            · obtain rfl : t = k := by omega
              have HL : Hid (Least (sameB d sn) t t) := ⟨Nat.le_refl _, chunkEq_true.2 (fun _ _ => rfl), H.out⟩
              go_wp2
              go_meet
              case rel => exact ⟨t, _, rfl, HL, rfl⟩
        case rest =>
          obtain ⟨j0, m', rfl, HL, rfl⟩ := hcut
          have hbd := headV_bounds (sameB d sn) (slotB d sn sh) n (slotN sh (wkv d sn k))
          have hsl : slotN sh (wkv d sn k) < N := slotN_lt sh b N _ hsh.out.1 hsh.out.2.2
          have hs31 : sh ≤ 31 := by have := hsh.out; omega
          have HB : Hid (headV (sameB d sn) (slotB d sn sh) n (slotN sh (wkv d sn k)) - 1 = prevI (inSlot (sameB d sn) (slotB d sn sh) (slotB d sn sh k)) n) := head_at d sn sh k n
          have HCV : Hid (∀ m, (w3.drewN m).cell? ⟨sp, slotN sh (wkv d sn k), none⟩ = some (.int .i32 (headV (sameB d sn) (slotB d sn sh) n (slotN sh (wkv d sn k))))) := fun m => by simpa using HROWS.out.srow.cell hsl
          have HSL : Hid (slotN sh (wkv d sn k) < N) := hsl
          have HBD : Hid (0 ≤ headV (sameB d sn) (slotB d sn sh) n (slotN sh (wkv d sn k)) ∧ headV (sameB d sn) (slotB d sn sh) n (slotN sh (wkv d sn k)) ≤ 65536) := by refine ⟨hbd.1, ?_⟩; omega
          clear hbd hsl
          go_wp2_with fail
          refine (weakOf_sig q L L sn n k d OK.out hlt (HC3.out _)).mono ?_
          rintro e w4 ⟨rfl, m2, rfl⟩
          go_wp2_with fail
          refine (dfirst_sig dp sp sh N (wkv d sn k) _ _ hs31 HSL.out HBD.out (by simpa using HD1.out) (by simpa using HD2.out) (HCV.out _)).mono ?_
          rintro e w5 ⟨rfl, m3, rfl⟩
          rw [HB.out]
          clear HB HCV HSL HBD
          go_wp2
          go_loopg [18, 19, 20] n (fun g vf vj vs wi => ∃ (f : Bool) (st m4 : Nat), st + g ≤ n ∧ vf = .bool f ∧ vj = .int .i64 (prevI (inSlot (sameB d sn) (slotB d sn sh) (slotB d sn sh k)) g) ∧ vs = .int .i64 st ∧ wi = w3.drewN m4 ∧ Hid (f = true ↔ g ≤ j0))
          case atStart => exact ⟨false, 0, _, by omega, rfl, rfl, rfl, rfl, by have := HL.out.le; constructor; (intro h; cases h); (intro h; omega)⟩
          case round =>
            obtain ⟨f, st, m4, hst, rfl, rfl, rfl, rfl, H⟩ := hrel
            rcases prevI_spec (inSlot (sameB d sn) (slotB d sn sh) (slotB d sn sh k)) gk with ⟨hv, hall⟩ | ⟨i, hv, hi1, hi2, hi3⟩
            · rw [hv]
              obtain rfl : f = true := H.out.2 (found_end HOK.out HL.out hall)
              clear hv hall H
              go_wp2
              go_roundg (n - (k + 1))
              case measure => omega
              case rel => exact ⟨k + 1, m4, by omega, by go_num, rfl⟩
            · rw [hv]
              have hin : i < n := by omega
              have hin' : (i : Int) < (n : Int) := by omega
              have hstn : (st : Int) < (n : Int) := by omega
              have HI2 : Hid (inSlot (sameB d sn) (slotB d sn sh) (slotB d sn sh k) i = true) := hi2
              have HI3 : Hid (∀ t, i < t → t < gk → inSlot (sameB d sn) (slotB d sn sh) (slotB d sn sh k) t = false) := hi3
              have HNX : Hid (nextV (sameB d sn) (slotB d sn sh) i = prevI (inSlot (sameB d sn) (slotB d sn sh) (slotB d sn sh k)) i) := next_in_chain hi2
              have HCN : Hid (∀ m, (w3.drewN m).cell? ⟨np, i, none⟩ = some (.int .i64 (nextV (sameB d sn) (slotB d sn sh) i))) := fun m => by simpa using HROWS.out.nrow.cell hin
              clear hv hi2 hi3
              go_wp2_with fail
              refine (chunk_sig q L L sn n i k d OK.out hin hlt (HC3.out _)).mono ?_
              rintro e w6 ⟨rfl, m5, rfl⟩
              cases hb : sameB d sn i k with
              | true =>
                obtain rfl : i = j0 := HL.out.unique HOK.out HI2.out hb
                obtain rfl : f = false := by
                  cases f with
                  | false => rfl
                  | true => have := H.out.1 rfl; omega
                clear hb
                go_wp2_with fail
                refine (dnext_sig dp np n i _ _ hin hn1 (by simpa using HD3.out) (HCN.out _)).mono ?_
                rintro e w7 ⟨rfl, rfl⟩
                rw [HNX.out]
                go_wp2
                go_roundg i
                case measure => exact hi1
                case rel => exact ⟨true, st + 1, _, by omega, rfl, rfl, by go_num, rfl, ⟨fun _ => Nat.le_refl _, fun _ => rfl⟩⟩
              | false =>
                have HK := found_keep HOK.out HL.out hi1 hb HI3.out
                have H2 : Hid (f = true ↔ i ≤ j0) := H.out.trans HK.symm
                clear hb HK
                go_wp2_with fail
                refine (dnext_sig dp np n i _ _ hin hn1 (by simpa using HD3.out) (HCN.out _)).mono ?_
                rintro e w7 ⟨rfl, rfl⟩
                rw [HNX.out]
                go_wp2
                go_roundg i
                case measure => exact hi1
                case rel => exact ⟨f, st + 1, _, by omega, rfl, rfl, by go_num, rfl, H2⟩
      · have hlt' : ¬ (k : Int) < (n : Int) := by omega
        go_wp2
        go_ret
        exact ⟨rfl, below_drewN B3 m⟩
  · clear hby hd
    have HF : Hid (¬ Fits bs sz ss L) := hf
    clear hf
    go_enter Try.func5, Try.ntmps5
    go_wp2_with fail
    refine (bytes10 _ _ _ _ _ _ _ _ (by omega)).mono ?_
    rintro e w1 ⟨rfl, hb⟩
    go_wp2_with fail
    refine (fits_any bs sz ss a L c _ hb0 hb1 hz1 hs0 hs1 (by omega)).mono ?_
    rintro e w1 ⟨b, rfl, hbf, rfl⟩
    cases b with
    | true => exact absurd (hbf rfl) HF.out
    | false =>
      clear hbf
      go_wp2
      go_ret
      exact ⟨rfl, B0.trans (hb.mono (by simp))⟩
end Go.Proofs.Qxb6615076a
