import Derived.Test.Qxb6615076aState
import Derived.Deep.OwnRows
namespace Go.Proofs.Qxb6615076a
open Go.ChangeShapes Go.WideShapes Go.ChangeAt Go.RowKit
set_option linter.unusedVariables false

/-- The table as it lies, k blocks laid: r: the result's block, tp: the table's own, sp: its slots, np: its next. -/
structure TabAt (w0 wr : World) (B r sp np tp sh N n k : Nat) (d : Nat → Int) (ss : Nat) : Prop where
  below : Below B w0 wr
  big : B ≤ r ∧ B ≤ sp ∧ B ≤ np ∧ B ≤ tp
  apart : r ≠ sp ∧ r ≠ np ∧ r ≠ tp ∧ sp ≠ np ∧ sp ≠ tp ∧ np ≠ tp
  rrow : wr.rowIs r 53 3 (fun i => if i = 0 then .int .u64 0 else .slice none 0 0)
  trow : wr.rowIs tp 53 3 (fun i => if i = 0 then .int .u64 sh else if i = 1 then .slice (some ⟨sp, 0, none⟩) N N else .slice (some ⟨np, 0, none⟩) n n)
  srow : wr.rowIs sp 21 N (fun s => .int .i32 (headV (sameB d ss) (slotB d ss sh) k s))
  nrow : wr.rowIs np 3 n (fun j => .int .i64 (if j < k then nextV (sameB d ss) (slotB d ss sh) j else 0))

section
variable {w0 wr w1 : World} {B r sp np tp sh N n k ss : Nat} {d : Nat → Int}

theorem TabAt.grow (h : TabAt w0 wr B r sp np tp sh N n k d ss) (hb : Below wr.heap.size wr w1) (hB : B ≤ wr.heap.size) : TabAt w0 w1 B r sp np tp sh N n k d ss where
  below := h.below.trans (hb.mono hB)
  big := h.big
  apart := h.apart
  rrow := h.rrow.of_block (hb.block _ h.rrow.lt)
  trow := h.trow.of_block (hb.block _ h.trow.lt)
  srow := h.srow.of_block (hb.block _ h.srow.lt)
  nrow := h.nrow.of_block (hb.block _ h.nrow.lt)

theorem TabAt.drewN (h : TabAt w0 wr B r sp np tp sh N n k d ss) (m : Nat) : TabAt w0 (wr.drewN m) B r sp np tp sh N n k d ss where
  below := below_drewN h.below m
  big := h.big
  apart := h.apart
  rrow := h.rrow
  trow := h.trow
  srow := h.srow
  nrow := h.nrow

theorem TabAt.dup (h : TabAt w0 wr B r sp np tp sh N n k d ss) (hk : firstB (sameB d ss) k = false) :
    TabAt w0 (wr.setCell ⟨np, k, none⟩ (.int .i64 (-1))) B r sp np tp sh N n (k + 1) d ss where
  below := h.below.setCell h.big.2.2.1 _
  big := h.big
  apart := h.apart
  rrow := h.rrow.setOther h.apart.2.1 _
  trow := h.trow.setOther (fun e => h.apart.2.2.2.2.2 e.symm) _
  srow := (h.srow.setOther h.apart.2.2.2.1 _).congr (fun i _ => by rw [headV_dup hk])
  nrow := (h.nrow.set k _).congr (fun i _ => by
    by_cases e : i = k
    · subst e; simp [nextV_dup hk]
    · by_cases e2 : i < k
      · have : i < k + 1 := by omega
        simp [e, e2, this]
      · have : ¬ i < k + 1 := by omega
        simp [e, e2, this])

theorem TabAt.new (h : TabAt w0 wr B r sp np tp sh N n k d ss) (hk : firstB (sameB d ss) k = true) (m : Nat) :
    TabAt w0 (((wr.setCell ⟨np, k, none⟩ (.int .i64 (headV (sameB d ss) (slotB d ss sh) k (slotB d ss sh k) - 1))).drewN m).setCell ⟨sp, slotB d ss sh k, none⟩ (.int .i32 ((k : Int) + 1))) B r sp np tp sh N n (k + 1) d ss where
  below := (below_drewN (h.below.setCell h.big.2.2.1 _) m).setCell h.big.2.1 _
  big := h.big
  apart := h.apart
  rrow := World.rowIs.setOther (w := (wr.setCell ⟨np, k, none⟩ _).drewN m) (h.rrow.setOther h.apart.2.1 _) h.apart.1 _
  trow := World.rowIs.setOther (w := (wr.setCell ⟨np, k, none⟩ _).drewN m) (h.trow.setOther (fun e => h.apart.2.2.2.2.2 e.symm) _) (fun e => h.apart.2.2.2.2.1 e.symm) _
  srow := (World.rowIs.set (w := (wr.setCell ⟨np, k, none⟩ _).drewN m) (h.srow.setOther h.apart.2.2.2.1 _) (slotB d ss sh k) _).congr (fun i _ => by
    rw [headV_new hk]
    by_cases e : i = slotB d ss sh k <;> simp [e])
  nrow := (World.rowIs.setOther (w := (wr.setCell ⟨np, k, none⟩ _).drewN m) (h.nrow.set k _) (fun e => h.apart.2.2.2.1 e.symm) _).congr (fun i _ => by
    by_cases e : i = k
    · subst e; simp [nextV_new hk]
    · by_cases e2 : i < k
      · have : i < k + 1 := by omega
        simp [e, e2, this]
      · have : ¬ i < k + 1 := by omega
        simp [e, e2, this])

theorem TabAt.t0 (h : TabAt w0 wr B r sp np tp sh N n k d ss) : wr.cell? ⟨tp, 0, none⟩ = some (.int .u64 sh) := h.trow.cell (i := 0) (by omega)
theorem TabAt.t1 (h : TabAt w0 wr B r sp np tp sh N n k d ss) : wr.cell? ⟨tp, 1, none⟩ = some (.slice (some ⟨sp, 0, none⟩) N N) := h.trow.cell (i := 1) (by omega)
theorem TabAt.t2 (h : TabAt w0 wr B r sp np tp sh N n k d ss) : wr.cell? ⟨tp, 2, none⟩ = some (.slice (some ⟨np, 0, none⟩) n n) := h.trow.cell (i := 2) (by omega)
theorem TabAt.head (h : TabAt w0 wr B r sp np tp sh N n k d ss) {s : Nat} (hs : s < N) : wr.cell? ⟨sp, s, none⟩ = some (.int .i32 (headV (sameB d ss) (slotB d ss sh) k s)) := h.srow.cell hs
theorem TabAt.next (h : TabAt w0 wr B r sp np tp sh N n k d ss) {j : Nat} (hj : j < n) : wr.cell? ⟨np, j, none⟩ = some (.int .i64 (if j < k then nextV (sameB d ss) (slotB d ss sh) j else 0)) := h.nrow.cell hj
theorem TabAt.size (h : TabAt w0 wr B r sp np tp sh N n k d ss) : B ≤ wr.heap.size := by
  have := h.trow.lt
  have := h.big.2.2.2
  omega
end

/-- Four blocks laid, a draw between. -/
theorem heap4 (w : World) (o0 o1 o2 o3 : Obj) (m : Nat) :
    (((((w.alloc o0).drewN m).alloc o1).alloc o2).alloc o3).heap[w.heap.size]? = some o0 ∧ (((((w.alloc o0).drewN m).alloc o1).alloc o2).alloc o3).heap[w.heap.size + 1]? = some o1 ∧
    (((((w.alloc o0).drewN m).alloc o1).alloc o2).alloc o3).heap[w.heap.size + 1 + 1]? = some o2 ∧ (((((w.alloc o0).drewN m).alloc o1).alloc o2).alloc o3).heap[w.heap.size + 1 + 1 + 1]? = some o3 ∧
    Below w.heap.size w (((((w.alloc o0).drewN m).alloc o1).alloc o2).alloc o3) := by
  have e : (((((w.alloc o0).drewN m).alloc o1).alloc o2).alloc o3).heap = (((w.heap.push o0).push o1).push o2).push o3 := rfl
  have z : ∀ i, (((((w.alloc o0).drewN m).alloc o1).alloc o2).alloc o3).heap[i]? = if i = w.heap.size + 1 + 1 + 1 then some o3 else if i = w.heap.size + 1 + 1 then some o2 else if i = w.heap.size + 1 then some o1 else if i = w.heap.size then some o0 else w.heap[i]? := by
    intro i
    rw [e]
    simp only [Array.getElem?_push, Array.size_push]
  refine ⟨?_, ?_, ?_, ?_, ?_⟩
  · rw [z, if_neg (by omega), if_neg (by omega), if_neg (by omega), if_pos rfl]
  · rw [z, if_neg (by omega), if_neg (by omega), if_pos rfl]
  · rw [z, if_neg (by omega), if_pos rfl]
  · rw [z, if_pos rfl]
  exact (((below_drewN ((Below.refl _ _).alloc (Nat.le_refl _) _) m).alloc (by simp) _).alloc (by simp; omega) _).alloc (by simp; omega) _

theorem tab_start {w W : World} {r sp np tp sh N n ss : Nat} {shI : Int} {d : Nat → Int} (hb : Below w.heap.size w W)
    (hr : W.heap[r]? = some (.cells #[.int .u64 0, .slice none 0 0, .slice none 0 0] 53 (0, 0)))
    (ht : W.heap[tp]? = some (.cells #[.int .u64 shI, .slice (some ⟨sp, 0, none⟩) N N, .slice (some ⟨np, 0, none⟩) n n] 53 (0, 0)))
    (hs : W.heap[sp]? = some (.cells (madeCells #[.int .i32 0] N) 21 (0, 0)))
    (hn : W.heap[np]? = some (.cells (madeCells #[.int .i64 0] n) 3 (0, 0)))
    (hsh : shI = (sh : Int)) (big : w.heap.size ≤ r ∧ w.heap.size ≤ sp ∧ w.heap.size ≤ np ∧ w.heap.size ≤ tp)
    (apart : r ≠ sp ∧ r ≠ np ∧ r ≠ tp ∧ sp ≠ np ∧ sp ≠ tp ∧ np ≠ tp) : TabAt w W w.heap.size r sp np tp sh N n 0 d ss where
  below := hb
  big := big
  apart := apart
  rrow := ⟨_, hr, rfl, fun i hi => by match i, hi with | 0, _ => rfl | 1, _ => rfl | 2, _ => rfl⟩
  trow := ⟨_, ht, rfl, fun i hi => by subst hsh; match i, hi with | 0, _ => rfl | 1, _ => rfl | 2, _ => rfl⟩
  srow := ⟨_, hs, size_madeCells _ _, fun i hi => by simp [madeCells, hi, Nat.mod_one, headV_zero]⟩
  nrow := ⟨_, hn, size_madeCells _ _, fun i hi => by simp [madeCells, hi, Nat.mod_one]⟩

end Go.Proofs.Qxb6615076a
