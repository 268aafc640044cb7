import Derived.Test.Qxb6608999aRow20
import Derived.Lib.Bytealg
import Derived.Lib.BytesEntry
namespace Go.Proofs.Qxb6608999a
open Go.ChangeShapes Go.WideShapes Go.ChangeAt Go.RowKit
set_option linter.unusedVariables false

def sgn (a b : Int) : Int := if a < b then -1 else if b < a then 1 else 0

theorem cmp_snoc : ∀ (l m : List UInt8) (a b : UInt8), l.length = m.length →
    Lib.compareBytes (l ++ [a]) (m ++ [b]) = if Lib.compareBytes l m = 0 then (if a < b then -1 else if b < a then 1 else 0) else Lib.compareBytes l m
  | [], [], a, b, _ => by simp [Lib.compareBytes]
  | [], y :: m, a, b, h => by simp at h
  | x :: l, [], a, b, h => by simp at h
  | x :: l, y :: m, a, b, h => by
    have ih := cmp_snoc l m a b (by simpa using h)
    simp only [List.cons_append, Lib.compareBytes, ih]
    by_cases h1 : x < y
    · simp [h1]
    · by_cases h2 : y < x
      · simp [h1, h2]
      · simp [h1, h2]

theorem byte_lt (a b : Int) (ha : 0 ≤ a ∧ a ≤ 255) (hb : 0 ≤ b ∧ b ≤ 255) : (UInt8.ofNat a.toNat < UInt8.ofNat b.toNat) ↔ a < b := by
  rw [UInt8.lt_iff_toNat_lt, UInt8.toNat_ofNat', UInt8.toNat_ofNat']
  omega

theorem sgn_lt {a b : Int} (h : a < b) : sgn a b = -1 := if_pos h
theorem sgn_gt {a b : Int} (h : b < a) : sgn a b = 1 := by unfold sgn; rw [if_neg (by omega), if_pos h]
theorem sgn_self (a : Int) : sgn a a = 0 := by unfold sgn; rw [if_neg (by omega), if_neg (by omega)]

theorem sgn_snoc (p q a b : Int) (h1 : 0 ≤ a ∧ a ≤ 255) (h2 : 0 ≤ b ∧ b ≤ 255) :
    (if sgn p q = 0 then (if a < b then -1 else if b < a then 1 else 0) else sgn p q) = sgn (p * 256 + a) (q * 256 + b) := by
  rcases Int.lt_trichotomy p q with c | c | c
  · rw [sgn_lt c, if_neg (by decide), sgn_lt (by omega)]
  · subst c
    rw [sgn_self, if_pos rfl]
    rcases Int.lt_trichotomy a b with d | d | d
    · rw [if_pos d, sgn_lt (by omega)]
    · subst d; rw [if_neg (by omega), if_neg (by omega), sgn_self]
    · rw [if_neg (by omega), if_pos d, sgn_gt (by omega)]
  · rw [sgn_gt c, if_neg (by decide), sgn_gt (by omega)]

theorem cmp_val {x y : Nat → Int} (hx : Bytes x) (hy : Bytes y) : ∀ n, Lib.compareBytes (Lib.bytesOf ((List.range n).map x)) (Lib.bytesOf ((List.range n).map y)) = sgn (valN x n) (valN y n)
  | 0 => by simp [Lib.bytesOf, Lib.compareBytes, sgn, valN]
  | n + 1 => by
    have ih := cmp_val hx hy n
    have e : ∀ z : Nat → Int, Lib.bytesOf ((List.range (n + 1)).map z) = Lib.bytesOf ((List.range n).map z) ++ [UInt8.ofNat (z n).toNat] := fun z => by
      simp [Lib.bytesOf, List.range_succ]
    rw [e x, e y, cmp_snoc _ _ _ _ (by simp [Lib.bytesOf]), ih]
    have h1 := hx n
    have h2 := hy n
    have l1 := byte_lt (x n) (y n) h1 h2
    have l2 := byte_lt (y n) (x n) h2 h1
    simp only [l1, l2]
    have ex : valN x (n + 1) = valN x n * 256 + x n := rfl
    have ey : valN y (n + 1) = valN y n * 256 + y n := rfl
    rw [ex, ey]
    clear ih e l1 l2 ex ey
    generalize valN x n = p
    generalize valN y n = q
    generalize x n = a at *
    generalize y n = b at *
    exact sgn_snoc p q a b h1 h2

theorem run_load20 {P : Program} {w : World} {b : Nat} {t : TypeId} {x : Nat → Int} (R : Row20 w b t x) :
    (Extern.Bytes.loadBytes ⟨b, 0, none⟩ 20 .empty).run P w = .ok ⟨(Lib.bytesOf ((List.range 20).map x)).toArray⟩ w := by
  have h := Lib.run_loadBytesX (P := P) w ((List.range 20).map x) ⟨b, 0, none⟩ .empty (fun j v hv => by
    rw [List.getElem?_map] at hv
    have hj : j < 20 := by
      rcases Nat.lt_or_ge j 20 with h | h
      · exact h
      · rw [List.getElem?_eq_none (by simpa using h)] at hv; cases hv
    rw [List.getElem?_range hj] at hv
    simp at hv
    subst hv
    have := R.cell hj
    have e : (⟨b, 0, none⟩ : Addr).add j = ⟨b, j, none⟩ := by unfold Addr.add; split <;> simp_all
    rw [e]; exact this)
  rw [List.length_map, List.length_range] at h
  rw [h]
  simp

theorem run_compare20 {P : Program} {w : World} {b c : Nat} {t u : TypeId} {x y : Nat → Int} (R : Row20 w b t x) (S : Row20 w c u y) (hx : Bytes x) (hy : Bytes y) :
    (Extern.BytealgCompare.compare #[.slice (some ⟨b, 0, none⟩) 20 20, .slice (some ⟨c, 0, none⟩) 20 20]).run P w = .ok (.int .i64 (sgn (valN x 20) (valN y 20))) w := by
  change Sem.run P (do pure (goInt (Extern.BytealgCompare.cmp (← Extern.Bytes.bytesOf (.slice (some ⟨b, 0, none⟩) 20 20)) (← Extern.Bytes.bytesOf (.slice (some ⟨c, 0, none⟩) 20 20))))) w = _
  simp only [Extern.Bytes.bytesOf, Sem.run_bind, Sem.run_pure, run_load20 R, run_load20 S, Result.andThen]
  rw [Lib.cmp_eq]
  show Result.ok (goInt (Lib.compareBytes (Lib.bytesOf ((List.range 20).map x)) (Lib.bytesOf ((List.range 20).map y)))) w = _
  rw [cmp_val hx hy 20]
  rfl

set_option maxHeartbeats 1000000 in
theorem compare_any {w : World} {b c : Nat} {t u : TypeId} {x y : Nat → Int} (R : Row20 w b t x) (S : Row20 w c u y) (hx : Bytes x) (hy : Bytes y) :
    Calls Try.prog 24 #[.slice (some ⟨b, 0, none⟩) 20 20, .slice (some ⟨c, 0, none⟩) 20 20] w fun e w' => e = .returned (.int .i64 (sgn (valN x 20) (valN y 20))) ∧ w' = w := by
  have hr := run_compare20 (P := Try.prog) R S hx hy
  have HR : Hid ((Extern.BytealgCompare.compare #[.slice (some ⟨b, 0, none⟩) 20 20, .slice (some ⟨c, 0, none⟩) 20 20]).run Try.prog w = .ok (.int .i64 (sgn (valN x 20) (valN y 20))) w) := hr
  clear hr
  go_enter Try.func24, Try.ntmps24
  go_wp2
  rw [run_callFunc_extern Try.func25 (by kernel_rfl) (by kernel_rfl) (by kernel_rfl) (e := Extern.BytealgCompare.compare) (by kernel_rfl), HR.out]
  simp only [Result.andThen]
  rw [Oper.upon_value]
  go_wp2
  go_ret
  exact ⟨rfl, rfl⟩
end Go.Proofs.Qxb6608999a
