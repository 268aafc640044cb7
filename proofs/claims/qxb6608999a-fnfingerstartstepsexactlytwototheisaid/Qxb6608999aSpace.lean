import Derived.Test.Qxb6608999aFinger
import Derived.OrdersHeld
import Derived.Deep.RegionHeld3
namespace Go.Proofs.Qxb6608999a
open Go.ChangeShapes Go.WideShapes Go.ChangeAt Go.RowKit
set_option linter.unusedVariables false

set_option maxHeartbeats 1000000 in
theorem shift_any (b : Int) (w : World) (h0 : 0 ≤ b) (h1 : b ≤ 160) :
    Calls Try.prog 23 #[.agg #[.int .i64 b]] w fun e w' => e = .returned (.int .u64 (160 - b)) ∧ Below w.heap.size w w' := by
  go_enter Try.func23, Try.ntmps23
  go_wp2
  go_ret
  exact ⟨rfl, (Below.refl _ _).alloc (Nat.le_refl _) _⟩

theorem hi34 (b : Int) : (Try.prog.info? 34).map (·.size) = some (#[.int .i64 b] : Array Value).size := by kernel_rfl

set_option maxHeartbeats 1000000 in
theorem space_any (b : Int) (w : World) :
    Calls Try.prog 12 #[.int .i64 b] w fun e w' => e = .returned (.agg #[.int .i64 b]) ∧ Below w.heap.size w w' := by
  go_enter Try.func12, Try.ntmps12
  go_wp2
  refine bodyPost_ret (v := .agg #[.int .i64 b]) (results_cell_row Try.results12 _ _ w.heap.size 34 #[.int .i64 b] (0, 0) _ rfl (heap_alloc_new _ _) Try.underlying34 rfl (hi34 b)) rfl ?_
  exact ⟨rfl, (Below.refl _ _).alloc (Nat.le_refl _) _⟩

theorem wrapI (n : Int) (h0 : -9223372036854775808 ≤ n) (h1 : n ≤ 9223372036854775807) : IntKind.i64.wrap n = n := by
  simp [IntKind.wrap, IntKind.bits, IntKind.signed]; omega

theorem load_op {ty : TypeId} {g : Nat} {cs : Array Value} {w : World} (h : (loadVar ty ⟨g, 0, none⟩).run Try.prog w = .ok (.agg cs) w) :
    Sem.run Try.prog (Instr.loadAt ty (.pointer (some ⟨g, 0, none⟩)) >>= fun v => pure (Next.value v)) w = .ok (.value (.agg cs)) w := by
  simp only [Instr.loadAt, Instr.sureAddr, Sem.run_bind, Sem.run_pure, Result.andThen_ok, h]

set_option maxHeartbeats 1000000 in
theorem start_any (b : Int) (s : Nat) (x : Nat → Int) (i : Nat) (w : World) (hx : Bytes x) (h0 : 0 ≤ b) (h1 : b ≤ 160) (hbs : Hid (160 - b = s)) (hi : i ≤ 9223372036854775647) :
    Calls Try.prog 20 #[.agg #[.int .i64 b], .agg (vec x), .int .i64 i] w fun e w' => ∃ y : Nat → Int, e = .returned (.agg (vec y)) ∧ Hid (Bytes y) ∧ Hid (valN y 20 = (valN x 20 + 2 ^ (i + s)) % M) ∧ Below w.heap.size w w' := by
  go_enter Try.func20, Try.ntmps20
  have R4 : Row20 (((w.alloc (.cells #[.int .i64 b] 34)).alloc (.cells (vec x) 32)).alloc (.cells (vec fun _ => 0) 32)) (w.heap.size + 1) 32 x := by
    have := (Row20.new (w.alloc (.cells #[.int .i64 b] 34)) x 32).alloc (.cells (vec fun _ => 0) 32)
    simpa using this
  have R6 : Row20 (((w.alloc (.cells #[.int .i64 b] 34)).alloc (.cells (vec x) 32)).alloc (.cells (vec fun _ => 0) 32)) (w.heap.size + 1 + 1) 32 (fun _ => 0) := by
    have := Row20.new ((w.alloc (.cells #[.int .i64 b] 34)).alloc (.cells (vec x) 32)) (fun _ => 0) 32
    simpa using this
  have R3 : (((w.alloc (.cells #[.int .i64 b] 34)).alloc (.cells (vec x) 32)).alloc (.cells (vec fun _ => 0) 32)).heap[w.heap.size]? = some (.cells #[.int .i64 b] 34 (0, 0)) := by
    rw [Below.heap_alloc _ _ _ (by simp; omega), Below.heap_alloc _ _ _ (by simp), heap_alloc_new]
  have B0 : Below w.heap.size w (((w.alloc (.cells #[.int .i64 b] 34)).alloc (.cells (vec x) 32)).alloc (.cells (vec fun _ => 0) 32)) :=
    (((Below.refl _ _).alloc (Nat.le_refl _) _).alloc (by simp) _).alloc (by simp; omega) _
  go_wp2
  change Code.wp _ _ _ _ (((w.alloc (.cells #[.int .i64 b] 34)).alloc (.cells (vec x) 32)).alloc (.cells (vec fun _ => 0) 32))
  generalize (((w.alloc (.cells #[.int .i64 b] 34)).alloc (.cells (vec x) 32)).alloc (.cells (vec fun _ => 0) 32)) = w1 at R3 R4 R6 B0 ⊢
  refine wp_region_noPanic ?_
  refine wp_region_held_drew (S := fun w' => Row20 w' (w.heap.size + 1) 32 x ∧ w'.heap[w.heap.size]? = some (.cells #[.int .i64 b] 34 (0, 0))) (by kernel_rfl) ⟨R4, R3⟩ (fun hS => ?_)
  have hD : Below w1.heap.size w1 w1.drew := (Below.refl _ _).drew
  refine wpAnyH_take (i := 0) (v := .agg (vec x)) rfl (by kernel_rfl) (by kernel_rfl) (by kernel_rfl) (fun _ _ _ h => h) (.inl ⟨by rfl, fun w' h => load_op (run_loadVar_row w' (w.heap.size+1) 32 32 (vec x) (0, 0) _ h.1 Try.underlying32 rfl (hi32 x))⟩) hS ?_
  refine wpAnyH_take (i := 1) (v := .int .i64 i) rfl (by kernel_rfl) (by kernel_rfl) (by kernel_rfl) (fun _ _ _ h => h) (.inl ⟨by rfl, fun _ _ => rfl⟩) hS ?_
  refine wpAnyH_take (i := 2) (v := .agg #[.int .i64 b]) rfl (by kernel_rfl) (by kernel_rfl) (by kernel_rfl) (fun _ _ _ h => h) (.inl ⟨by rfl, fun w' h => load_op (run_loadVar_row w' (w.heap.size) 34 34 #[.int .i64 b] (0, 0) _ h.2 Try.underlying34 rfl (hi34 b))⟩) hS ?_
  refine wpAnyH_ready (rs := [3]) (by kernel_rfl) (by simp) (AllReadyH.cons rfl (fun K hK => ?_) AllReadyH.nil)
  rw [if_pos (by rfl)]
  go_simp
  refine (shift_any b _ h0 h1).mono ?_
  rw [hbs.out]
  rintro e w2 ⟨rfl, hb2⟩
  have hD2 : Below w1.heap.size w1 w2 := hD.trans (hb2.mono (Nat.le_refl _))
  refine hK.out _ _ ⟨R4.grow hD2, (hD2.block _ (Array.getElem?_eq_some_iff.1 R3).1).trans R3⟩ (fun hS2 => ?_)
  clear hK K hS hb2
  have hs1 : s ≤ 160 := by have := hbs.out; omega
  refine wpAnyH_take (i := 4) (v := .int .i64 s) rfl (by kernel_rfl) (by kernel_rfl) (by kernel_rfl) (fun _ _ _ h => h) (.inl ⟨by rfl, fun w _ => by go_simp; exact wrapI _ (by omega) (by omega)⟩) hS2 ?_
  refine wpAnyH_take (i := 5) (v := .int .i64 ((i : Int) + s)) rfl (by kernel_rfl) (by kernel_rfl) (by kernel_rfl) (fun _ _ _ h => h) (.inl ⟨by rfl, fun w _ => by go_simp; exact wrapI _ (by omega) (by omega)⟩) hS2 ?_
  rw [show (i : Int) + s = ((i + s : Nat) : Int) by omega]
  refine wpAnyH_ready (rs := [6]) (by kernel_rfl) (by simp) (AllReadyH.cons rfl (fun K hK => ?_) AllReadyH.nil)
  rw [if_pos (by rfl)]
  have hc := finger_any x (i + s) w2 hx (by omega)
  go_simp
  refine hc.mono ?_
  rintro e w3 ⟨y, rfl, HY, HV, hb3⟩
  have hD3 : Below w1.heap.size w1 w3 := hD2.trans (hb3.mono hD2.size)
  have R43 := R4.grow hD3
  have R33 := (hD3.block _ (Array.getElem?_eq_some_iff.1 R3).1).trans R3
  refine hK.out _ _ ⟨R43, R33⟩ (fun _ => ?_)
  clear hK K hS2 hb3 hc
  refine wpAnyH_ready (rs := [7]) (by kernel_rfl) (by simp) (AllReadyH.cons rfl (fun K hK => ?_) AllReadyH.nil)
  rw [if_pos (by rfl)]
  have R6' := R6.grow hD3
  refine wp_store_row 32 _ _ rfl (w.heap.size + 1 + 1) (vec y) rfl rfl 32 _ R6' (hi32 y) rfl (vec_one y) ?_
  refine hK.out _ _ ⟨R43.of_block (setRow_other _ _ _ _ (by omega)), (setRow_other _ _ _ _ (by omega)).trans R33⟩ (fun _ => ?_)
  refine wpAnyH_done (by kernel_rfl) ?_ _
  clear hK K
  refine NoPanic.normal ?_
  go_wp2
  refine bodyPost_ret (v := .agg (vec y)) (results_cell_row Try.results20 _ _ (w.heap.size + 1 + 1) 32 (vec y) (0, 0) _ rfl (R6'.set y) Try.underlying32 rfl (hi32 y)) rfl ?_
  exact ⟨y, rfl, HY, HV, below_setRow (B0.trans (hD3.mono B0.size)) (by omega) _⟩
end Go.Proofs.Qxb6608999a
