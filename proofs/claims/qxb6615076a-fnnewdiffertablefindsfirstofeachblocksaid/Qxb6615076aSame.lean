import Derived.Test.Qxb6615076aRows
import Derived.WalkKit
import Derived.ProofKit
import Derived.Deep.QuietTactic
import Derived.BigQuiet
import Derived.Laws.BytesArg
import Derived.Lib.Bytes
namespace Go.Proofs.Qxb6615076a
open Go.ChangeShapes Go.WideShapes Go.ChangeAt Go.RowKit
set_option linter.unusedVariables false

/-! The plain side: two runs of e bytes, at a and at b. -/
def chunkEq (d : Nat → Int) (a b e : Nat) : Bool := decide (∀ t, t < e → d (a + t) = d (b + t))

theorem chunkEq_true {d : Nat → Int} {a b e : Nat} : chunkEq d a b e = true ↔ ∀ t, t < e → d (a + t) = d (b + t) := by
  unfold chunkEq; simp

theorem chunkEq_false {d : Nat → Int} {a b e : Nat} : chunkEq d a b e = false ↔ ∃ t, t < e ∧ d (a + t) ≠ d (b + t) := by
  unfold chunkEq; simp

def numsAt (d : Nat → Int) (a e : Nat) : List Int := (List.range e).map fun t => d (a + t)

theorem numsAt_length (d : Nat → Int) (a e : Nat) : (numsAt d a e).length = e := by simp [numsAt]
theorem numsAt_getD (d : Nat → Int) (a e i : Nat) (h : i < e) : (numsAt d a e).getD i 0 = d (a + i) := by
  simp [numsAt, List.getD, h]

theorem byte_inj (x y : Int) (hx : 0 ≤ x ∧ x ≤ 255) (hy : 0 ≤ y ∧ y ≤ 255) (h : UInt8.ofNat x.toNat = UInt8.ofNat y.toNat) : x = y := by
  have h2 := congrArg UInt8.toNat h
  simp at h2
  omega

theorem bytes_chunkEq (d : Nat → Int) (a b e : Nat) (hd : ∀ i, 0 ≤ d i ∧ d i ≤ 255) : ((strOfNums (numsAt d a e)).toList == (strOfNums (numsAt d b e)).toList) = chunkEq d a b e := by
  rw [Bool.eq_iff_iff, beq_iff_eq, chunkEq_true, Lib.strOfNums_toList, Lib.strOfNums_toList]
  constructor
  · intro h t ht
    have h2 := congrArg (fun l => l[t]?) h
    simp [Lib.bytesOf, numsAt, ht] at h2
    exact byte_inj _ _ (hd _) (hd _) h2
  · intro h
    unfold Lib.bytesOf numsAt
    rw [List.map_map, List.map_map]
    apply List.map_congr_left
    intro t ht
    simp at ht
    simp [h t ht]

set_option maxHeartbeats 400000 in
theorem equal_str (v1 v2 : Value) (s1 s2 : ByteArray) (w : World)
    (h1 : (convert 27 9 v1).run Try.prog w = .ok (.string s1) w) (h2 : (convert 27 9 v2).run Try.prog w = .ok (.string s2) w) :
    Calls Try.prog 39 #[v1, v2] w fun e w' => e = .returned (.bool (s1.toList == s2.toList)) ∧ w' = w := by
  go_enter Try.func39, Try.ntmps39
  go_wp2
  go_ret
  exact ⟨rfl, rfl⟩

theorem equal_any (q a b e c1 c2 L : Nat) (d : Nat → Int) (w : World) (hd : ∀ i, 0 ≤ d i ∧ d i ≤ 255) (ha : a + e ≤ L) (hb : b + e ≤ L)
    (hc : ∀ i, i < L → w.cell? ⟨q, i, none⟩ = some (.int .u8 (d i))) :
    Calls Try.prog 39 #[.slice (some ⟨q, a, none⟩) e c1, .slice (some ⟨q, b, none⟩) e c2] w fun x w' => x = .returned (.bool (chunkEq d a b e)) ∧ w' = w := by
  rw [← bytes_chunkEq d a b e hd]
  refine equal_str _ _ _ _ w ?_ ?_
  · exact run_convert_bytes_arg w 27 5 Try.underlying27 Try.underlying5 q a e c1 _ (numsAt_length d a e) (fun i hi => by rw [numsAt_getD d a e i hi]; exact hc _ (by omega)) 9 Try.underlying9
  · exact run_convert_bytes_arg w 27 5 Try.underlying27 Try.underlying5 q b e c2 _ (numsAt_length d b e) (fun i hi => by rw [numsAt_getD d b e i hi]; exact hc _ (by omega)) 9 Try.underlying9

set_option maxHeartbeats 400000 in
theorem same_core (p q L mj mj1 mk mk1 j k ss : Nat) (v : Bool) (w : World) (hs : ss ≤ 32) (hj : j ≤ 65536) (hk : k ≤ 65536) (hL : L ≤ 65536)
    (e1 : (j : Int) * (4 + (ss : Int)) = (mj : Int)) (e2 : ((j : Int) + 1) * (4 + (ss : Int)) = (mj1 : Int)) (e3 : (k : Int) * (4 + (ss : Int)) = (mk : Int)) (e4 : ((k : Int) + 1) * (4 + (ss : Int)) = (mk1 : Int))
    (i1 : mj < mj1) (i2 : mj1 ≤ L) (i3 : mk < mk1) (i4 : mk1 ≤ L)
    (c18 : w.cell? ⟨p, 18, none⟩ = some (.int .i64 ss)) (c19 : w.cell? ⟨p, 19, none⟩ = some (.slice (some ⟨q, 0, none⟩) L L))
    (hq : ∀ n, Calls Try.prog 39 #[.slice (some ⟨q, mj, none⟩) (mj1 - mj) (L - mj), .slice (some ⟨q, mk, none⟩) (mk1 - mk) (L - mk)] (w.drewN n) fun x w' => x = .returned (.bool v) ∧ w' = w.drewN n) :
    Calls Try.prog 33 #[.pointer (some ⟨p, 0, none⟩), .int .i64 j, .int .i64 k] w fun x w' => x = .returned (.bool v) ∧ ∃ n, w' = w.drewN n := by
  have HQ : Hid (∀ n, Calls Try.prog 39 #[.slice (some ⟨q, mj, none⟩) (mj1 - mj) (L - mj), .slice (some ⟨q, mk, none⟩) (mk1 - mk) (L - mk)] (w.drewN n) fun x w' => x = .returned (.bool v) ∧ w' = w.drewN n) := hq
  clear hq
  go_enter Try.func33, Try.ntmps33
  go_wp2
  go_quiet ((go_at_call 39; exact Calls.quiet_of_same (HQ.out _)))
  go_wp2
  go_ret
  exact ⟨rfl, _, rfl⟩
end Go.Proofs.Qxb6615076a
