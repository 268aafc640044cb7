import Derived.Test.Qxb6615076aRows
import Derived.WalkKit
import Derived.ProofKit
import Derived.Deep.OwnRows
import Derived.WalkSmall
import Derived.Test.Qxb6615076aPlain
import Derived.Test.Qxb6615076aSame
import Derived.Test.Qxb6615076aWeak
import Derived.Test.Qxb6615076aSlot
import Derived.Test.Qxb6615076aWhole
namespace Go.Proofs.Qxb6615076a
open Go.ChangeShapes Go.WideShapes Go.ChangeAt Go.RowKit
set_option linter.unusedVariables false

/-! ### The plain numbers of a signature: bytes d, ss bytes of strong sum a block -/
def wkv (d : Nat → Int) (ss k : Nat) : Int := d (k * (4 + ss)) * 16777216 + d (k * (4 + ss) + 1) * 65536 + d (k * (4 + ss) + 2) * 256 + d (k * (4 + ss) + 3)
def slotN (sh : Nat) (x : Int) : Nat := (x * 2246822507 % 4294967296 / 2 ^ sh).toNat
def sameB (d : Nat → Int) (ss j k : Nat) : Bool := chunkEq d (j * (4 + ss)) (k * (4 + ss)) (4 + ss)
def slotB (d : Nat → Int) (ss sh k : Nat) : Nat := slotN sh (wkv d ss k)

theorem wkv_bounds {d : Nat → Int} (hd : ∀ i, 0 ≤ d i ∧ d i ≤ 255) (ss k : Nat) : 0 ≤ wkv d ss k ∧ wkv d ss k ≤ 4294967295 := by
  have a := hd (k * (4 + ss))
  have b := hd (k * (4 + ss) + 1)
  have c := hd (k * (4 + ss) + 2)
  have e := hd (k * (4 + ss) + 3)
  unfold wkv; omega

theorem slot_nonneg (sh : Nat) (x : Int) : 0 ≤ x * 2246822507 % 4294967296 / 2 ^ sh :=
  Int.ediv_nonneg (Int.emod_nonneg _ (by decide)) (Int.le_of_lt (Int.pow_pos (by decide)))

theorem slotN_cast (sh : Nat) (x : Int) : ((slotN sh x : Nat) : Int) = x * 2246822507 % 4294967296 / 2 ^ sh := Int.toNat_of_nonneg (slot_nonneg sh x)

theorem slotN_lt (sh b N : Nat) (x : Int) (hb : sh + b = 32) (hN : N = 2 ^ b) : slotN sh x < N := by
  have h2 : x * 2246822507 % 4294967296 < 4294967296 := Int.emod_lt_of_pos _ (by decide)
  have h4 : ((slotN sh x : Nat) : Int) < ((2 ^ b : Nat) : Int) := by
    rw [slotN_cast]
    refine Int.ediv_lt_of_lt_mul (Int.pow_pos (by decide)) ?_
    have e : ((2 ^ b : Nat) : Int) * (2 : Int) ^ sh = 4294967296 := by
      have : ((2 ^ b : Nat) : Int) = (2 : Int) ^ b := by simp
      rw [this, ← Int.pow_add, show b + sh = 32 from by omega]
      rfl
    rw [e]; exact h2
  rw [hN]; exact_mod_cast h4

theorem sameB_ok (d : Nat → Int) (ss sh : Nat) : SameOk (sameB d ss) (slotB d ss sh) where
  symm i j h := by
    unfold sameB at *
    rw [chunkEq_true] at *
    exact fun t ht => (h t ht).symm
  trans i j k h1 h2 := by
    unfold sameB at *
    rw [chunkEq_true] at *
    exact fun t ht => (h1 t ht).trans (h2 t ht)
  slot i j h := by
    unfold sameB at h
    rw [chunkEq_true] at h
    have a := h 0 (by omega)
    have b := h 1 (by omega)
    have c := h 2 (by omega)
    have e := h 3 (by omega)
    simp only [Nat.add_zero] at a
    unfold slotB wkv
    rw [a, b, c, e]

/-! ### The signature in memory -/
/-- At block p lies a Signature of block length bs and size sz, of n whole blocks, whose sums, L bytes d, lie in block q (asked only where there is a whole block). -/
structure SigAt (w : World) (p q L ss n : Nat) (bs sz : Int) (d : Nat → Int) : Prop where
  c0 : w.cell? ⟨p, 0, none⟩ = some (.int .i64 bs)
  c1 : w.cell? ⟨p, 1, none⟩ = some (.int .i64 sz)
  c18 : w.cell? ⟨p, 18, none⟩ = some (.int .i64 ss)
  c19 : 0 < n → w.cell? ⟨p, 19, none⟩ = some (.slice (some ⟨q, 0, none⟩) L L)
  hc : 0 < n → ∀ i, i < L → w.cell? ⟨q, i, none⟩ = some (.int .u8 (d i))

/-- What is asked of the numbers. -/
structure SigOk (L ss n : Nat) (bs sz : Int) (d : Nat → Int) : Prop where
  hd : ∀ i, 0 ≤ d i ∧ d i ≤ 255
  b1 : 1 ≤ bs
  b2 : bs ≤ 65536
  s0 : 0 ≤ sz
  s1 : sz ≤ 9223372036854775807
  whole : sz / bs = (n : Int)
  n1 : n ≤ 65536
  ss1 : ss ≤ 32
  l1 : L ≤ 65536
  ln : n * (4 + ss) ≤ L

theorem SigAt.below {w w' : World} {B p q L ss n : Nat} {bs sz : Int} {d : Nat → Int} (h : SigAt w p q L ss n bs sz d) (hb : Below B w w') (hp : p < B) (hq : 0 < n → q < B) : SigAt w' p q L ss n bs sz d where
  c0 := by rw [hb.cell (p := ⟨p, 0, none⟩) hp]; exact h.c0
  c1 := by rw [hb.cell (p := ⟨p, 1, none⟩) hp]; exact h.c1
  c18 := by rw [hb.cell (p := ⟨p, 18, none⟩) hp]; exact h.c18
  c19 h0 := by rw [hb.cell (p := ⟨p, 19, none⟩) hp]; exact h.c19 h0
  hc h0 i hi := by rw [hb.cell (p := ⟨q, i, none⟩) (hq h0)]; exact h.hc h0 i hi

theorem row_le (k n ss L : Nat) (hk : k < n) (h : n * (4 + ss) ≤ L) : k * (4 + ss) + (4 + ss) ≤ L := by
  have : (k + 1) * (4 + ss) ≤ n * (4 + ss) := Nat.mul_le_mul_right _ hk
  rw [Nat.succ_mul] at this
  omega

theorem weak_sig {w : World} {p q L ss n : Nat} {bs sz : Int} {d : Nat → Int} (h : SigAt w p q L ss n bs sz d) (ok : SigOk L ss n bs sz d) (k : Nat) (hk : k < n) :
    Calls Try.prog 32 #[.pointer (some ⟨p, 0, none⟩), .int .i64 k] w fun e w' => e = .returned (.int .u32 (wkv d ss k)) ∧ Below w.heap.size w w' := by
  have hr := row_le k n ss L hk ok.ln
  have n1 := ok.n1
  have hcc := h.hc (by omega) 0 (by omega)
  exact weak_any p q L k (k * (4 + ss)) ss d w (block_lt_of_cell h.c0) (block_lt_of_cell hcc) ok.ss1 (by omega) (by simp) (by omega) ok.l1 ok.hd h.c18 (h.c19 (by omega)) (h.hc (by omega))

theorem same_sig {w : World} {p q L ss n : Nat} {bs sz : Int} {d : Nat → Int} (h : SigAt w p q L ss n bs sz d) (ok : SigOk L ss n bs sz d) (j k : Nat) (hj : j < n) (hk : k < n) :
    Calls Try.prog 33 #[.pointer (some ⟨p, 0, none⟩), .int .i64 j, .int .i64 k] w fun e w' => e = .returned (.bool (sameB d ss j k)) ∧ ∃ m, w' = w.drewN m := by
  have hrj := row_le j n ss L hj ok.ln
  have hrk := row_le k n ss L hk ok.ln
  have n1 := ok.n1
  refine same_core p q L (j * (4 + ss)) (j * (4 + ss) + (4 + ss)) (k * (4 + ss)) (k * (4 + ss) + (4 + ss)) j k ss _ w ok.ss1 (by omega) (by omega) ok.l1 (by simp) (by simp [Int.add_mul]) (by simp) (by simp [Int.add_mul]) (by omega) (by omega) (by omega) (by omega) h.c18 (h.c19 (by omega)) (fun m => ?_)
  rw [Nat.add_sub_cancel_left, Nat.add_sub_cancel_left]
  exact equal_any q _ _ _ _ _ L d _ ok.hd (by omega) (by omega) (fun i hi => by simpa using h.hc (by omega) i hi)

theorem whole_sig {w : World} {p q L ss n : Nat} {bs sz : Int} {d : Nat → Int} (h : SigAt w p q L ss n bs sz d) (ok : SigOk L ss n bs sz d) :
    Calls Try.prog 25 #[.pointer (some ⟨p, 0, none⟩)] w fun e w' => e = .returned (.int .i64 (n : Int)) ∧ ∃ m, w' = w.drewN m := by
  have b2 := ok.b2
  have := whole_any p sz bs w ok.s0 ok.b1 ok.s1 (by omega) h.c0 h.c1
  rw [ok.whole] at this
  exact this

theorem slot_sig (p sh : Nat) (x : Int) (w : World) (h0 : 0 ≤ x) (h1 : x ≤ 4294967295) (hs : sh ≤ 31) (hc0 : w.cell? ⟨p, 0, none⟩ = some (.int .u64 sh)) :
    Calls Try.prog 31 #[.pointer (some ⟨p, 0, none⟩), .int .u32 x] w fun e w' => e = .returned (.int .u32 ((slotN sh x : Nat) : Int)) ∧ w' = w := by
  rw [slotN_cast]
  exact slot_any p sh x w h0 h1 hs hc0

theorem first_sig (p q sh N : Nat) (x v : Int) (w : World) (h0 : 0 ≤ x) (h1 : x ≤ 4294967295) (hs : sh ≤ 31) (hi : slotN sh x < N) (hv : 0 ≤ v ∧ v ≤ 65536)
    (hc0 : w.cell? ⟨p, 0, none⟩ = some (.int .u64 sh)) (hc1 : w.cell? ⟨p, 1, none⟩ = some (.slice (some ⟨q, 0, none⟩) N N))
    (hcv : w.cell? ⟨q, slotN sh x, none⟩ = some (.int .i32 v)) :
    Calls Try.prog 29 #[.pointer (some ⟨p, 0, none⟩), .int .u32 x] w fun e w' => e = .returned (.int .i64 (v - 1)) ∧ ∃ n, w' = w.drewN n :=
  first_any p q sh N x v w h0 h1 hs (by rw [← slotN_cast]; exact_mod_cast hi) (slot_nonneg sh x) (by omega) (by omega) hc0 hc1 hcv

end Go.Proofs.Qxb6615076a
