import Derived.Test.Qxb6608999aRows
import Derived.Test.Qxb6608999aPlain
import Derived.WalkKit
import Derived.ProofKit
import Derived.WalkSmall
import Derived.Deep.OwnRows
import Derived.Deep.LoopGhost
import Derived.Laws.Rows
import Derived.Laws.Tables
import Derived.Laws.CopyOwn
namespace Go.Proofs.Qxb6608999a
open Go.ChangeShapes Go.WideShapes Go.ChangeAt Go.RowKit
set_option linter.unusedVariables false

/-- Twenty bytes as an array's cells. -/
def vec (z : Nat → Int) : Array Value := #[.int .u8 (z 0), .int .u8 (z 1), .int .u8 (z 2), .int .u8 (z 3), .int .u8 (z 4), .int .u8 (z 5), .int .u8 (z 6), .int .u8 (z 7), .int .u8 (z 8), .int .u8 (z 9), .int .u8 (z 10), .int .u8 (z 11), .int .u8 (z 12), .int .u8 (z 13), .int .u8 (z 14), .int .u8 (z 15), .int .u8 (z 16), .int .u8 (z 17), .int .u8 (z 18), .int .u8 (z 19)]

theorem vec_size (z : Nat → Int) : (vec z).size = 20 := rfl
theorem vec_get (z : Nat → Int) (k : Nat) (hk : k < 20) : (vec z)[k]? = some (.int .u8 (z k)) := by
  match k, hk with
  | 0, _ => rfl
  | 1, _ => rfl
  | 2, _ => rfl
  | 3, _ => rfl
  | 4, _ => rfl
  | 5, _ => rfl
  | 6, _ => rfl
  | 7, _ => rfl
  | 8, _ => rfl
  | 9, _ => rfl
  | 10, _ => rfl
  | 11, _ => rfl
  | 12, _ => rfl
  | 13, _ => rfl
  | 14, _ => rfl
  | 15, _ => rfl
  | 16, _ => rfl
  | 17, _ => rfl
  | 18, _ => rfl
  | 19, _ => rfl
  | n + 20, h => exact absurd h (by omega)
theorem vec_one (z : Nat → Int) : (vec z).all (·.oneCell') = true := by simp [vec, Value.oneCell']
theorem vec_zero : vec (fun _ => 0) = #[.int .u8 0, .int .u8 0, .int .u8 0, .int .u8 0, .int .u8 0, .int .u8 0, .int .u8 0, .int .u8 0, .int .u8 0, .int .u8 0, .int .u8 0, .int .u8 0, .int .u8 0, .int .u8 0, .int .u8 0, .int .u8 0, .int .u8 0, .int .u8 0, .int .u8 0, .int .u8 0] := rfl

theorem vec_ext {c : Array Value} {z : Nat → Int} (hs : c.size = 20) (h : ∀ k, k < 20 → c[k]? = some (.int .u8 (z k))) : c = vec z := by
  apply Array.ext_getElem?
  intro k
  rcases Nat.lt_or_ge k 20 with hk | hk
  · rw [h k hk, vec_get z k hk]
  · rw [Array.getElem?_eq_none (by omega), Array.getElem?_eq_none (by rw [vec_size]; omega)]

theorem vec_congr {x y : Nat → Int} (h : ∀ k, k < 20 → x k = y k) : vec x = vec y :=
  vec_ext (vec_size x) (fun k hk => by rw [vec_get x k hk, h k hk])

theorem vec_inj {x y : Nat → Int} (h : vec x = vec y) : ∀ k, k < 20 → x k = y k := by
  intro k hk
  have h2 := congrArg (fun c : Array Value => c[k]?) h
  simp only [vec_get x k hk, vec_get y k hk] at h2
  injection h2 with h2
  injection h2

/-- Twenty bytes in block b. -/
def Row20 (w : World) (b : Nat) (t : TypeId) (z : Nat → Int) : Prop := w.heap[b]? = some (.cells (vec z) t (0, 0))

theorem Row20.cell {w : World} {b : Nat} {t : TypeId} {z : Nat → Int} (h : Row20 w b t z) {k : Nat} (hk : k < 20) : w.cell? ⟨b, k, none⟩ = some (.int .u8 (z k)) := by
  have h' : w.heap[b]? = some (.cells (vec z) t (0, 0)) := h
  simp [World.cell?, h', vec_get z k hk]
theorem Row20.frozen {w : World} {b : Nat} {t : TypeId} {z : Nat → Int} (h : Row20 w b t z) (k : Nat) : w.frozen? ⟨b, k, none⟩ = false := by
  have h' : w.heap[b]? = some (.cells (vec z) t (0, 0)) := h
  simp [World.frozen?, h']
theorem Row20.lt {w : World} {b : Nat} {t : TypeId} {z : Nat → Int} (h : Row20 w b t z) : b < w.heap.size := (Array.getElem?_eq_some_iff.1 h).1
theorem Row20.of_block {w w' : World} {b : Nat} {t : TypeId} {z : Nat → Int} (h : Row20 w b t z) (e : w'.heap[b]? = w.heap[b]?) : Row20 w' b t z := e.trans h
theorem Row20.grow {w w' : World} {b : Nat} {t : TypeId} {z : Nat → Int} (h : Row20 w b t z) (hb : Below w.heap.size w w') : Row20 w' b t z := h.of_block (hb.block _ h.lt)
theorem Row20.alloc {w : World} {b : Nat} {t : TypeId} {z : Nat → Int} (h : Row20 w b t z) (o : Obj) : Row20 (w.alloc o) b t z := h.of_block (Below.heap_alloc w o b h.lt)
theorem Row20.new (w : World) (z : Nat → Int) (t : TypeId) : Row20 (w.alloc (.cells (vec z) t)) w.heap.size t z := heap_alloc_new _ _
theorem Row20.step {w : World} {b : Nat} {t : TypeId} {z : Nat → Int} (h : Row20 w b t z) (j : Nat) (v : Int) : Row20 (w.setCell ⟨b, j, none⟩ (.int .u8 v)) b t (fun k => if k = j then v else z k) := by
  have h2 := heap_setCell_same w b j (vec z) t (.int .u8 v) h
  unfold Row20
  rw [h2]
  congr 2
  refine vec_ext (by simp [vec_size]) (fun k hk => ?_)
  rw [Array.getElem?_setIfInBounds]
  by_cases e : k = j
  · subst e; simp [vec_size, hk]
  · rw [if_neg (fun x => e x.symm), vec_get z k hk, if_neg e]
theorem Row20.other {w : World} {b : Nat} {t : TypeId} {z : Nat → Int} (h : Row20 w b t z) {a : Addr} (ha : b ≠ a.block) (v : Value) : Row20 (w.setCell a v) b t z := h.of_block (heap_setCell_other w a b v ha)
theorem Row20.set {w : World} {b : Nat} {t : TypeId} {z : Nat → Int} (h : Row20 w b t z) (y : Nat → Int) : Row20 (w.setRow b (vec y)) b t y := setRow_heap w b (vec z) (vec y) t (0, 0) h

theorem hi32 (z : Nat → Int) : (Try.prog.info? 32).map (·.size) = some (vec z).size := by rw [vec_size]; kernel_rfl
theorem hi31 (z : Nat → Int) : (Try.prog.info? 31).map (·.size) = some (vec z).size := by rw [vec_size]; kernel_rfl

theorem finger_step (z : Nat → Int) (b : Nat) (c : Int) (hb : b < 20) :
    valN (fun k => if k = b then (z b + c) % 256 else z k) 20 + (z b + c) / 256 * 256 ^ (20 - b) = valN z 20 + c * 256 ^ (20 - (b + 1)) := by
  rw [valN_upd z b _ 20 hb]
  have e1 : 20 - b = (20 - 1 - b) + 1 := by omega
  have e2 : 20 - (b + 1) = 20 - 1 - b := by omega
  rw [e1, e2, Int.pow_succ]
  generalize (256 : Int) ^ (20 - 1 - b) = P
  have h3 : (z b + c) % 256 = z b + c - 256 * ((z b + c) / 256) := by omega
  rw [h3]
  generalize (z b + c) / 256 = D
  generalize valN z 20 = V
  generalize z b = u
  have k1 : (u + c - 256 * D - u) * P = c * P - 256 * (D * P) := by
    rw [show u + c - 256 * D - u = c - 256 * D by omega, Int.sub_mul, Int.mul_assoc]
  have k2 : D * (P * 256) = 256 * (D * P) := by rw [← Int.mul_assoc, Int.mul_comm]
  rw [k1, k2]
  omega

/-- What the loop of FingerStart keeps: g places are left, the carry c stands at the g-th. -/
def Kept (x z : Nat → Int) (i g : Nat) (c : Int) : Prop := (valN z 20 + c * 256 ^ (20 - g)) % M = (valN x 20 + 2 ^ i) % M

theorem Kept.start (x : Nat → Int) (i : Nat) : Kept x x i (20 - i / 8) (2 ^ (i % 8)) := by
  unfold Kept
  by_cases h : i < 160
  · rw [show 20 - (20 - i / 8) = i / 8 by omega, ← pow_split]
  · have e : (256 : Int) ^ (20 - (20 - i / 8)) = M := by rw [show 20 - (20 - i / 8) = 20 by omega]; rfl
    rw [e, Int.add_mul_emod_self_right, Int.add_emod, pow_large i (by omega), Int.add_zero, Int.emod_emod_of_dvd _ (Int.dvd_refl _)]

theorem Kept.step {x z : Nat → Int} {i b : Nat} {c : Int} (h : Kept x z i (b + 1) c) (hb : b < 20) : Kept x (fun k => if k = b then (z b + c) % 256 else z k) i b ((z b + c) / 256) := by
  unfold Kept at *
  rw [finger_step z b c hb]; exact h

theorem Kept.end0 {x z : Nat → Int} {i : Nat} {c : Int} (hz : Bytes z) (h : Kept x z i 0 c) : valN z 20 = (valN x 20 + 2 ^ i) % M := by
  have hb := val_lt hz
  unfold Kept at h
  rw [← h]
  have e : (256 : Int) ^ (20 - 0) = M := rfl
  rw [e, Int.add_mul_emod_self_right, Int.emod_eq_of_lt hb.1 hb.2]

theorem Kept.endc {x z : Nat → Int} {i g : Nat} (hz : Bytes z) (h : Kept x z i g 0) : valN z 20 = (valN x 20 + 2 ^ i) % M := by
  have hb := val_lt hz
  unfold Kept at h
  rw [← h, Int.zero_mul, Int.add_zero, Int.emod_eq_of_lt hb.1 hb.2]

theorem pow_mod8 (i : Nat) : 1 ≤ (2 : Int) ^ (i % 8) ∧ (2 : Int) ^ (i % 8) ≤ 128 := by
  have h : i % 8 < 8 := Nat.mod_lt _ (by decide)
  generalize i % 8 = r at *
  match r, h with
  | 0, _ => decide
  | 1, _ => decide
  | 2, _ => decide
  | 3, _ => decide
  | 4, _ => decide
  | 5, _ => decide
  | 6, _ => decide
  | 7, _ => decide

end Go.Proofs.Qxb6608999a
