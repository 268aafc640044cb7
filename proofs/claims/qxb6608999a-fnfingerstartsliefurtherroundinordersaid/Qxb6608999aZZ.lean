import Derived.Test.Qxb6608999aSpace
namespace Go.Proofs.Qxb6608999a
open Go.ChangeShapes Go.WideShapes Go.ChangeAt Go.RowKit
set_option linter.unusedVariables false

theorem blk_past {w w' : World} {b : Nat} {o : Obj} (h : w.heap[b]? = some o) (hb : Below w.heap.size w w') (t : TypeId) (y : Nat → Int) :
    ((w'.alloc (.cells (vec fun _ => 0) t)).setRow w'.heap.size (vec y)).heap[b]? = some o := by
  have hlt : b < w.heap.size := (Array.getElem?_eq_some_iff.1 h).1
  have hs := hb.size
  rw [setRow_other _ _ _ _ (by omega), Below.heap_alloc _ _ _ (by omega), hb.block _ hlt]; exact h
theorem Row20.past {w w' : World} {b : Nat} {t : TypeId} {z : Nat → Int} (h : Row20 w b t z) (hb : Below w.heap.size w w') (t' : TypeId) (y : Nat → Int) :
    Row20 ((w'.alloc (.cells (vec fun _ => 0) t')).setRow w'.heap.size (vec y)) b t z := blk_past h hb t' y
theorem Row20.fresh (w : World) (t : TypeId) (y : Nat → Int) : Row20 ((w.alloc (.cells (vec fun _ => 0) t)).setRow w.heap.size (vec y)) w.heap.size t y := (Row20.new w (fun _ => 0) t).set y
theorem below_past {n : Nat} {w0 w w' : World} (h0 : Below n w0 w) (hn : n ≤ w.heap.size) (hb : Below w.heap.size w w') (t : TypeId) (y : Nat → Int) :
    Below n w0 ((w'.alloc (.cells (vec fun _ => 0) t)).setRow w'.heap.size (vec y)) := by
  have hs := hb.size
  exact below_setRow ((h0.trans (hb.mono hn)).alloc (by omega) _) (by omega) _

set_option maxRecDepth 100000 in
set_option maxHeartbeats 1000000 in
theorem zzstart_any (b : Int) (s : Nat) (x : Nat → Int) (i : Nat) (w : World) (hx : Bytes x) (h0 : 0 ≤ b) (h1 : b ≤ 160) (hbs : Hid (160 - b = s)) (hi : i ≤ 9223372036854775647) :
    Calls Try.prog 13 #[.agg #[.int .i64 b], .agg (vec x), .int .i64 i] w fun e w' => ∃ y : Nat → Int, e = .returned (.agg (vec y)) ∧ Hid (Bytes y) ∧ Hid (valN y 20 = (valN x 20 + 2 ^ (i + s)) % M) ∧ Below w.heap.size w w' := by
  have HX : Hid (Bytes x) := hx
  clear hx
  have R4 : Row20 (((w.alloc (.cells #[.int .i64 b] 34)).alloc (.cells (vec x) 32)).alloc (.cells (vec fun _ => 0) 32)) (w.heap.size + 1) 32 x := by
    have := (Row20.new (w.alloc (.cells #[.int .i64 b] 34)) x 32).alloc (.cells (vec fun _ => 0) 32)
    simpa using this
  have R6 : Row20 (((w.alloc (.cells #[.int .i64 b] 34)).alloc (.cells (vec x) 32)).alloc (.cells (vec fun _ => 0) 32)) (w.heap.size + 1 + 1) 32 (fun _ => 0) := by
    have := Row20.new ((w.alloc (.cells #[.int .i64 b] 34)).alloc (.cells (vec x) 32)) (fun _ => 0) 32
    simpa using this
  have R3 : (((w.alloc (.cells #[.int .i64 b] 34)).alloc (.cells (vec x) 32)).alloc (.cells (vec fun _ => 0) 32)).heap[w.heap.size]? = some (.cells #[.int .i64 b] 34 (0, 0)) := by
    rw [Below.heap_alloc _ _ _ (by simp; omega), Below.heap_alloc _ _ _ (by simp), heap_alloc_new]
  have B0 : Below w.heap.size w (((w.alloc (.cells #[.int .i64 b] 34)).alloc (.cells (vec x) 32)).alloc (.cells (vec fun _ => 0) 32)) :=
    (((Below.refl _ _).alloc (Nat.le_refl _) _).alloc (by simp) _).alloc (by simp; omega) _
  go_enter Try.func13, Try.ntmps13
  go_wp2_with (first | (refine wpList_load_row rfl 34 _ rfl w.heap.size rfl 34 #[.int .i64 b] (0, 0) _ R3 Try.underlying34 rfl (hi34 b) ?_) | (refine wpList_load_row rfl 32 _ rfl (w.heap.size + 1) rfl 32 (vec x) (0, 0) _ R4 Try.underlying32 rfl (hi32 x) ?_))
  change Calls _ _ _ (((w.alloc (.cells #[.int .i64 b] 34)).alloc (.cells (vec x) 32)).alloc (.cells (vec fun _ => 0) 32)) _
  generalize (((w.alloc (.cells #[.int .i64 b] 34)).alloc (.cells (vec x) 32)).alloc (.cells (vec fun _ => 0) 32)) = w1 at R3 R4 R6 B0 ⊢
  refine (start_any b s x i w1 HX.out h0 h1 hbs hi).mono ?_
  rintro e w2 ⟨y, rfl, HY, HV, hb2⟩
  have R6' := R6.grow hb2
  go_wp2_with (refine wpList_store_row rfl 32 _ _ rfl (w.heap.size + 1 + 1) (vec y) rfl rfl 32 _ R6' (hi32 y) rfl (vec_one y) ?_)
  refine bodyPost_ret (v := .agg (vec y)) (results_cell_row Try.results13 _ _ (w.heap.size + 1 + 1) 32 (vec y) (0, 0) _ rfl (R6'.set y) Try.underlying32 rfl (hi32 y)) rfl ?_
  exact ⟨y, rfl, HY, HV, below_setRow (B0.trans (hb2.mono B0.size)) (by omega) _⟩
end Go.Proofs.Qxb6608999a
