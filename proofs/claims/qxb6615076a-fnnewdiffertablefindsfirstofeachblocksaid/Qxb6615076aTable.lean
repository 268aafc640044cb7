import Derived.Test.Qxb6615076aTab
import Derived.Test.Qxb6615076aLen
import Derived.Deep.DeepCutAuto
import Derived.Deep.LoopGhost
import Derived.Deep.Light
namespace Go.Proofs.Qxb6615076a
open Go.ChangeShapes Go.WideShapes Go.ChangeAt Go.RowKit
set_option linter.unusedVariables false

theorem Try.info21 : (Try.prog.info? 21).map (fun i => (i.zero, i.size, i.bytes)) = some (some (.int .i32 0), 1, 4) := by kernel_rfl
theorem Try.info3 : (Try.prog.info? 3).map (fun i => (i.zero, i.size, i.bytes)) = some (some (.int .i64 0), 1, 8) := by kernel_rfl

/-- What newTable leaves: the slots at sp, the chain at np, nothing old turned. -/
structure NTab (w w' : World) (sp np sh N n : Nat) (d : Nat → Int) (ss : Nat) : Prop where
  below : Below w.heap.size w w'
  big : w.heap.size ≤ sp ∧ w.heap.size ≤ np
  srow : w'.rowIs sp 21 N (fun s => .int .i32 (headV (sameB d ss) (slotB d ss sh) n s))
  nrow : w'.rowIs np 3 n (fun j => .int .i64 (nextV (sameB d ss) (slotB d ss sh) j))

theorem tab_end {w wr : World} {sp np tp sh N n ss : Nat} {d : Nat → Int} (h : TabAt w wr w.heap.size w.heap.size sp np tp sh N n n d ss) (v0 v1 v2 : Value) :
    NTab w (((wr.setCell ⟨w.heap.size, 0, none⟩ v0).setCell ⟨w.heap.size, 1, none⟩ v1).setCell ⟨w.heap.size, 2, none⟩ v2) sp np sh N n d ss where
  below := ((h.below.setCell (Nat.le_refl _) _).setCell (Nat.le_refl _) _).setCell (Nat.le_refl _) _
  big := ⟨h.big.2.1, h.big.2.2.1⟩
  srow := (((h.srow.setOther (fun e => h.apart.1 e.symm) _).setOther (fun e => h.apart.1 e.symm) _).setOther (fun e => h.apart.1 e.symm) _)
  nrow := (((h.nrow.setOther (fun e => h.apart.2.1 e.symm) _).setOther (fun e => h.apart.2.1 e.symm) _).setOther (fun e => h.apart.2.1 e.symm) _).congr (fun i hi => by simp [hi])

theorem head_start (d : Nat → Int) (ss sh k : Nat) : headV (sameB d ss) (slotB d ss sh) k (slotN sh (wkv d ss k)) - 1 = prevI (inSlot (sameB d ss) (slotB d ss sh) (slotB d ss sh k)) k := by
  show prevI _ k + 1 - 1 = _
  rw [Int.add_sub_cancel]
  rfl

set_option maxHeartbeats 2000000 in
theorem newTable_any (p q L ss n : Nat) (bs sz : Int) (d : Nat → Int) (w : World) (sg : SigAt w p q L ss n bs sz d) (ok : SigOk L ss n bs sz d) (hp : p < w.heap.size) (hq : 0 < n → q < w.heap.size) :
    Calls Try.prog 26 #[.pointer (some ⟨p, 0, none⟩)] w fun x w' => ∃ sp np sh N b : Nat, sh + b = 32 ∧ 1 ≤ b ∧ N = 2 ^ b ∧ x = .returned (.agg #[.int .u64 sh, .slice (some ⟨sp, 0, none⟩) N N, .slice (some ⟨np, 0, none⟩) n n]) ∧ NTab w w' sp np sh N n d ss := by
  have n1 := ok.n1
  have hw := fun (w' : World) (hb : Below w.heap.size w w') => whole_sig (sg.below hb hp hq) ok
  have HW : Hid (∀ (w' : World), Below w.heap.size w w' → Calls Try.prog 25 #[.pointer (some ⟨p, 0, none⟩)] w' fun e w'' => e = .returned (.int .i64 (n : Int)) ∧ ∃ m, w'' = w'.drewN m) := hw
  clear hw
  have SG : Hid (SigAt w p q L ss n bs sz d) := sg
  have OK : Hid (SigOk L ss n bs sz d) := ok
  have HQ : Hid (0 < n → q < w.heap.size) := hq
  clear sg ok hq
  go_enter Try.func26, Try.ntmps26
  go_wp2_with fail
  refine (HW.out _ ((Below.refl _ _).alloc (Nat.le_refl _) _)).mono ?_
  clear HW
  rintro e w1 ⟨rfl, m1, rfl⟩
  go_upto_region 2 with fail
  go_cut [4] (fun v wc => ∃ b : Nat, 1 ≤ b ∧ b ≤ 31 ∧ v = .int .i64 b ∧ wc = (w.alloc (.cells #[.int .u64 0, .slice none 0 0, .slice none 0 0] 53)).drewN m1)
  case first =>
    go_wp2_with fail
    refine (len_any _ _ (by omega) (by omega)).mono ?_
    rintro e w1 ⟨r, rfl, hr0, hr1, rfl⟩
    go_wp2
    all_goals
      go_meet
      case rel =>
        first
          | exact ⟨31, by omega, by omega, rfl, rfl⟩
          | exact ⟨1, by omega, by omega, rfl, rfl⟩
          | exact ⟨r.toNat, by omega, by omega, by rw [Int.toNat_of_nonneg (by omega)], rfl⟩
  case rest =>
    obtain ⟨b, hb1, hb2, rfl, rfl⟩ := hcut
    go_upto_region 3 with fail
    obtain ⟨N, hN⟩ : ∃ N : Nat, N = 2 ^ b := ⟨_, rfl⟩
    have hNb : N ≤ 2147483648 := by rw [hN]; exact Nat.le_trans (Nat.pow_le_pow_right (by decide) hb2) (by decide)
    have hNi : (2 : Int) ^ b = (N : Int) := by rw [hN]; simp
    have hmk1 := run_make_row' (P := Try.prog) 50 21 (.int .i32 0) 4 Try.underlying50 Try.info21 rfl .i64 .i64 N (by omega) (by omega)
    have hmk2 := run_make_row' (P := Try.prog) 51 3 (.int .i64 0) 8 Try.underlying51 Try.info3 rfl .i64 .i64 n (by omega) (by omega)
    have HN : Hid (N = 2 ^ b) := hN
    clear hN
    go_cut [5] (fun v wc => ∃ sp np tp sh : Nat, sh + b = 32 ∧ v = .pointer (some ⟨tp, 0, none⟩) ∧ TabAt w wc w.heap.size w.heap.size sp np tp sh N n 0 d ss)
    case first =>
      go_region
      all_goals (go_wp2; go_meet)
      all_goals
        refine ⟨?_, ?_, _, 32 - b, by omega, rfl, tab_start (shI := 32 - (b : Int)) (heap4 w _ _ _ _ _).2.2.2.2 (heap4 w _ _ _ _ _).1 ?_ ?_ ?_ ?_ ?_ ?_⟩
        rotate_left 2
        · first | exact (heap4 w _ _ _ _ _).2.1 | exact (heap4 w _ _ _ _ _).2.2.1 | exact (heap4 w _ _ _ _ _).2.2.2.1
        · first | exact (heap4 w _ _ _ _ _).2.1 | exact (heap4 w _ _ _ _ _).2.2.1 | exact (heap4 w _ _ _ _ _).2.2.2.1
        · first | exact (heap4 w _ _ _ _ _).2.1 | exact (heap4 w _ _ _ _ _).2.2.1 | exact (heap4 w _ _ _ _ _).2.2.2.1
        · omega
        · exact ⟨by omega, by omega, by omega, by omega⟩
        · exact ⟨by omega, by omega, by omega, by omega, by omega, by omega⟩
    case rest =>
      obtain ⟨sp, np, tp, sh, hsh, rfl, T⟩ := hcut
      clear hmk1 hmk2 hNi
      have hsh2 : sh ≤ 31 := by omega
      have hNs : ∀ x, slotN sh x < N := fun x => slotN_lt sh b N x hsh HN.out
      go_wp2
      have HNB : Hid (1 ≤ b ∧ N = 2 ^ b) := ⟨hb1, HN.out⟩
      clear hNb hb1 hb2
      have HNs : Hid (∀ x, slotN sh x < N) := hNs
      clear hNs HN
      go_loopg [28] n (fun g v wr => ∃ k : Nat, k + g = n ∧ v = .int .i64 k ∧ TabAt w wr w.heap.size w.heap.size sp np tp sh N n k d ss)
      case atStart => exact ⟨0, by omega, rfl, T⟩
      case round =>
        clear T
        obtain ⟨k, hkg, rfl, T⟩ := hrel
        by_cases hlt : k < n
        · have hB := T.size
          have hwk := wkv_bounds OK.out.hd ss k
          go_wp2_with fail
          refine (weak_sig (SG.out.below T.below hp HQ.out) OK.out k hlt).mono ?_
          rintro e w1 ⟨rfl, hbw⟩
          have T1 := T.grow hbw hB
          clear T hbw
          go_wp2_with fail
          refine (slot_sig tp sh (wkv d ss k) _ hwk.1 hwk.2 hsh2 T1.t0).mono ?_
          rintro e w2 ⟨rfl, rfl⟩
          go_wp2_with fail
          refine (weak_sig (SG.out.below T1.below hp HQ.out) OK.out k hlt).mono ?_
          rintro e w1 ⟨rfl, hbw⟩
          have T2 := T1.grow hbw T1.size
          clear T1 hbw
          go_wp2_with fail
          refine (first_sig tp sp sh N (wkv d ss k) _ _ hwk.1 hwk.2 hsh2 (HNs.out _) (by have := headV_bounds (sameB d ss) (slotB d ss sh) k (slotN sh (wkv d ss k)); omega) T2.t0 T2.t1 (T2.head (HNs.out _))).mono ?_
          rintro e w2 ⟨rfl, m2, rfl⟩
          have T3 := T2.drewN m2
          clear T2
          have hj0 : headV (sameB d ss) (slotB d ss sh) k (slotN sh (wkv d ss k)) - 1 = prevI (inSlot (sameB d ss) (slotB d ss sh) (slotB d ss sh k)) k := head_start _ _ _ _
          have HJ0 : Hid (headV (sameB d ss) (slotB d ss sh) k (slotN sh (wkv d ss k)) - 1 = prevI (inSlot (sameB d ss) (slotB d ss sh) (slotB d ss sh k)) k) := hj0
          clear hj0
          go_wp2
          rw [HJ0.out]
          go_loopg [8, 9] k (fun g vd vj wi => ∃ dup : Bool, g ≤ k ∧ vd = .bool dup ∧ vj = .int .i64 (prevI (inSlot (sameB d ss) (slotB d ss sh) (slotB d ss sh k)) g) ∧ TabAt w wi w.heap.size w.heap.size sp np tp sh N n k d ss ∧
            (dup = false → ∀ i, g ≤ i → i < k → inSlot (sameB d ss) (slotB d ss sh) (slotB d ss sh k) i = true → sameB d ss i k = false) ∧ (dup = true → firstB (sameB d ss) k = false))
          case atStart => exact ⟨false, Nat.le_refl _, rfl, rfl, T3, fun _ i h1 h2 => absurd h2 (by omega), fun h => by cases h⟩
          case round =>
            clear T3
            obtain ⟨dup, hgk, rfl, rfl, T, hno, hyes⟩ := hrel
            have HNO : Hid (dup = false → ∀ i, gk ≤ i → i < k → inSlot (sameB d ss) (slotB d ss sh) (slotB d ss sh k) i = true → sameB d ss i k = false) := hno
            have HYES : Hid (dup = true → firstB (sameB d ss) k = false) := hyes
            clear hno hyes
            have e1 := T.t1
            have e2 := T.t2
            have en : wr.cell? ⟨np, k, none⟩ = some (.int .i64 0) := by have := T.next hlt; simpa using this
            have fn := T.nrow.frozen k
            have hlt' : (k : Int) < (n : Int) := by omega
            have hfin : dup = true → firstB (sameB d ss) k = false := HYES.out
            rcases prevI_spec (inSlot (sameB d ss) (slotB d ss sh) (slotB d ss sh k)) gk with ⟨hv, hall⟩ | ⟨i, hv, hi1, hi2, hi3⟩
            · rw [hv]
              cases dup with
              | true =>
                have hf := hfin rfl
                have T' := T.dup hf
                clear hfin hf hall hv
                go_wp2
                go_roundg (n - (k + 1))
                case measure => omega
                case rel => exact ⟨k + 1, by omega, by go_num, T'⟩
              | false =>
                have hf : firstB (sameB d ss) k = true := first_of_chain (sameB_ok d ss sh) (fun i h1 h2 => by
                  rcases Nat.lt_or_ge i gk with h | h
                  · rw [hall i h] at h2; cases h2
                  · exact HNO.out rfl i h h1 h2)
                have T' := T.new hf
                have T'' : ∀ m : Nat, TabAt w (((wr.setCell ⟨np, k, none⟩ (.int .i64 (headV (sameB d ss) (slotB d ss sh) k (slotN sh (wkv d ss k)) - 1))).drewN m).setCell ⟨sp, slotN sh (wkv d ss k), none⟩ (.int .i32 ((k : Int) + 1))) w.heap.size w.heap.size sp np tp sh N n (k + 1) d ss := T'
                have HT : Hid (∀ m : Nat, TabAt w (((wr.setCell ⟨np, k, none⟩ (.int .i64 (headV (sameB d ss) (slotB d ss sh) k (slotN sh (wkv d ss k)) - 1))).drewN m).setCell ⟨sp, slotN sh (wkv d ss k), none⟩ (.int .i32 ((k : Int) + 1))) w.heap.size w.heap.size sp np tp sh N n (k + 1) d ss) := T''
                clear hfin hf hall hv T' T''
                have es := T.head (HNs.out (wkv d ss k))
                have fs := T.srow.frozen (slotN sh (wkv d ss k))
                have hsl : ((slotN sh (wkv d ss k) : Nat) : Int) < (N : Int) := by have := HNs.out (wkv d ss k); omega
                have hhd := headV_bounds (sameB d ss) (slotB d ss sh) k (slotN sh (wkv d ss k))
                have hap := T.apart.2.2.2
                generalize hz : slotN sh (wkv d ss k) = z at *
                generalize hy : headV (sameB d ss) (slotB d ss sh) k z = y at *
                have HZ : Hid (slotN sh (wkv d ss k) = z) := hz
                clear hz hy
                go_wp2
                go_region
                all_goals
                  go_wp2
                  go_roundg (n - (k + 1))
                  case measure => omega
                  case rel => exact ⟨k + 1, by omega, by go_num, HT.out 1⟩
            · rw [hv]
              cases dup with
              | true =>
                have hf := hfin rfl
                have T' := T.dup hf
                clear hfin hf hv
                go_wp2
                go_roundg (n - (k + 1))
                case measure => omega
                case rel => exact ⟨k + 1, by omega, by go_num, T'⟩
              | false =>
                have hii := inSlot_true.1 hi2
                have hnx : nextV (sameB d ss) (slotB d ss sh) i = prevI (inSlot (sameB d ss) (slotB d ss sh) (slotB d ss sh k)) i := by
                  unfold nextV; rw [hii.2, if_pos rfl, hii.1]
                have ei : wr.cell? ⟨np, i, none⟩ = some (.int .i64 (prevI (inSlot (sameB d ss) (slotB d ss sh) (slotB d ss sh k)) i)) := by
                  have := T.next (show i < n by omega)
                  rw [if_pos (by omega), hnx] at this
                  exact this
                have hni : (i : Int) < (n : Int) := by omega
                have HI3 : Hid (∀ t, i < t → t < gk → inSlot (sameB d ss) (slotB d ss sh) (slotB d ss sh k) t = false) := hi3
                clear hfin hv hnx hii hi3
                go_wp2_with fail
                refine (same_sig (SG.out.below T.below hp HQ.out) OK.out i k (by omega) hlt).mono ?_
                rintro e w3 ⟨rfl, m3, rfl⟩
                go_wp2
                go_roundg i
                case measure => exact hi1
                case rel =>
                  refine ⟨sameB d ss i k, by omega, rfl, rfl, T.drewN m3, fun h t h1 h2 h3 => ?_, fun h => firstB_false.2 ⟨i, by omega, h⟩⟩
                  by_cases et : t = i
                  · rw [et]; exact h
                  · rcases Nat.lt_or_ge t gk with h4 | h4
                    · rw [HI3.out t (by omega) h4] at h3; cases h3
                    · exact HNO.out trivial t h4 h2 h3
        · have hkn : k = n := by omega
          have HTn : Hid (TabAt w wr w.heap.size w.heap.size sp np tp sh N n n d ss) := by subst hkn; exact T
          have e0 := T.t0
          have e1 := T.t1
          have e2 := T.t2
          have r0 := T.rrow.cell (i := 0) (by omega)
          have r1 := T.rrow.cell (i := 1) (by omega)
          have r2 := T.rrow.cell (i := 2) (by omega)
          have f0 := T.rrow.frozen 0
          have f1 := T.rrow.frozen 1
          have f2 := T.rrow.frozen 2
          simp only [if_pos, Nat.reduceEqDiff, if_false] at r0 r1 r2
          clear hkn T
          go_wp2
          refine bodyPost_ret (v := .agg #[.int .u64 sh, .slice (some ⟨sp, 0, none⟩) N N, .slice (some ⟨np, 0, none⟩) n n]) (by simp [results, Try.results26, go_sem, r0, r1, r2]) rfl ?_
          exact ⟨sp, np, sh, N, b, hsh, HNB.out.1, HNB.out.2, rfl, tab_end HTn.out _ _ _⟩
end Go.Proofs.Qxb6615076a
