import Derived.Test.Qxb6608999aRow20
import Derived.Deep.QuietTactic
import Derived.BigQuiet
import Derived.Deep.DeepCutAuto
namespace Go.Proofs.Qxb6608999a
open Go.ChangeShapes Go.WideShapes Go.ChangeAt Go.RowKit
set_option linter.unusedVariables false

/-- What the loop of zzSub keeps: the places from g on are done, the borrow br stands at the g-th. -/
structure SubK (a b z : Nat → Int) (g : Nat) (br : Int) : Prop where
  zero : ∀ k, k < g → z k = 0
  eq : valN z 20 - br * 256 ^ (20 - g) = (valN a 20 - valN a g * 256 ^ (20 - g)) - (valN b 20 - valN b g * 256 ^ (20 - g))

theorem SubK.start (a b : Nat → Int) : SubK a b (fun _ => 0) 20 0 :=
  ⟨fun _ _ => rfl, by rw [valN_zero]; simp⟩

theorem SubK.step {a b z : Nat → Int} {k : Nat} {br dd br' : Int} (h : SubK a b z (k + 1) br) (hk : k < 20) (hd : a k - b k - br = dd - 256 * br') :
    SubK a b (fun j => if j = k then dd else z j) k br' := by
  refine ⟨fun j hj => by rw [if_neg (by omega)]; exact h.zero j (by omega), ?_⟩
  rw [valN_upd z k dd 20 hk, h.zero k (by omega)]
  have e := h.eq
  have e1 : 20 - k = (20 - 1 - k) + 1 := by omega
  have e2 : 20 - (k + 1) = 20 - 1 - k := by omega
  rw [e2] at e
  rw [e1, Int.pow_succ]
  have e3 : valN a (k + 1) = valN a k * 256 + a k := rfl
  have e4 : valN b (k + 1) = valN b k * 256 + b k := rfl
  rw [e3, e4] at e
  generalize (256 : Int) ^ (20 - 1 - k) = P at *
  generalize valN z 20 = V at *
  generalize valN a 20 = A at *
  generalize valN b 20 = B at *
  generalize valN a k = A' at *
  generalize valN b k = B' at *
  have hd2 : dd = a k - b k - br + 256 * br' := by omega
  subst hd2
  generalize a k = x at *
  generalize b k = y at *
  have c1 : ∀ u : Int, u * (P * 256) = 256 * (u * P) := fun u => by rw [← Int.mul_assoc, Int.mul_comm]
  have c2 : ∀ u : Int, u * 256 * P = 256 * (u * P) := fun u => by rw [Int.mul_comm u 256, Int.mul_assoc]
  have c3 : ∀ u : Int, 256 * u * P = 256 * (u * P) := fun u => Int.mul_assoc 256 u P
  simp only [c1, Int.add_mul, Int.sub_mul, c2, c3] at e ⊢
  omega

theorem SubK.fin {a b z : Nat → Int} {br : Int} (hz : Bytes z) (h : SubK a b z 0 br) : valN z 20 = (valN a 20 - valN b 20) % M := by
  have hb := val_lt hz
  have e := h.eq
  have e0 : (256 : Int) ^ (20 - 0) = M := rfl
  have ea : valN a 0 = 0 := rfl
  have eb : valN b 0 = 0 := rfl
  rw [e0, ea, eb, Int.zero_mul, Int.sub_zero, Int.sub_zero] at e
  rw [← e, Int.sub_mul_emod_self_right, Int.emod_eq_of_lt hb.1 hb.2]

set_option maxRecDepth 100000 in
set_option maxHeartbeats 4000000 in
theorem sub_any (a b : Nat → Int) (w : World) (ha : Bytes a) (hb : Bytes b) :
    Calls Try.prog 14 #[.agg (vec a), .agg (vec b)] w fun e w' => ∃ y : Nat → Int, e = .returned (.agg (vec y)) ∧ Hid (Bytes y) ∧ Hid (valN y 20 = (valN a 20 - valN b 20) % M) ∧ Below w.heap.size w w' := by
  have HA : Hid (Bytes a) := ha
  have HB : Hid (Bytes b) := hb
  clear ha hb
  have R0 : Row20 ((((w.alloc (.cells (vec a) 31)).alloc (.cells (vec b) 31)).alloc (.cells (vec fun _ => 0) 31)).alloc (.cells (vec fun _ => 0) 31)) w.heap.size 31 a := (((Row20.new w a 31).alloc _).alloc _).alloc _
  have R1 : Row20 ((((w.alloc (.cells (vec a) 31)).alloc (.cells (vec b) 31)).alloc (.cells (vec fun _ => 0) 31)).alloc (.cells (vec fun _ => 0) 31)) (w.heap.size + 1) 31 b := by
    have := ((Row20.new (w.alloc (.cells (vec a) 31)) b 31).alloc (.cells (vec fun _ => 0) 31)).alloc (.cells (vec fun _ => 0) 31)
    simpa using this
  have R2 : Row20 ((((w.alloc (.cells (vec a) 31)).alloc (.cells (vec b) 31)).alloc (.cells (vec fun _ => 0) 31)).alloc (.cells (vec fun _ => 0) 31)) (w.heap.size + 1 + 1) 31 (fun _ => 0) := by
    have := (Row20.new ((w.alloc (.cells (vec a) 31)).alloc (.cells (vec b) 31)) (fun _ => 0) 31).alloc (.cells (vec fun _ => 0) 31)
    simpa using this
  have R3 : Row20 ((((w.alloc (.cells (vec a) 31)).alloc (.cells (vec b) 31)).alloc (.cells (vec fun _ => 0) 31)).alloc (.cells (vec fun _ => 0) 31)) (w.heap.size + 1 + 1 + 1) 31 (fun _ => 0) := by
    have := Row20.new (((w.alloc (.cells (vec a) 31)).alloc (.cells (vec b) 31)).alloc (.cells (vec fun _ => 0) 31)) (fun _ => 0) 31
    simpa using this
  have B0 : Below w.heap.size w ((((w.alloc (.cells (vec a) 31)).alloc (.cells (vec b) 31)).alloc (.cells (vec fun _ => 0) 31)).alloc (.cells (vec fun _ => 0) 31)) :=
    ((((Below.refl _ _).alloc (Nat.le_refl _) _).alloc (by simp) _).alloc (by simp; omega) _).alloc (by simp; omega) _
  go_enter Try.func14, Try.ntmps14
  go_wp2
  go_loopg [6, 7] 20 (fun g vb vk wr => ∃ (br : Int) (z : Nat → Int), g ≤ 20 ∧ vb = .int .i64 br ∧ vk = .int .i64 ((g : Int) - 1) ∧ 0 ≤ br ∧ br ≤ 1 ∧ Hid (Bytes z) ∧ Row20 wr w.heap.size 31 a ∧ Row20 wr (w.heap.size + 1) 31 b ∧ Row20 wr (w.heap.size + 1 + 1) 31 (fun _ => 0) ∧ Row20 wr (w.heap.size + 1 + 1 + 1) 31 z ∧ Below w.heap.size w wr ∧ Hid (SubK a b z g br))
  case atStart => exact ⟨0, fun _ => 0, by omega, rfl, rfl, by omega, by omega, bytes_zero, R0, R1, R2, R3, B0, SubK.start a b⟩
  case round =>
    clear R0 R1 R2 R3 B0
    obtain ⟨br, z, hg, rfl, rfl, hb0, hb1, HZ, Ra, Rb, Rr, Rz, hbe, H⟩ := hrel
    by_cases hg0 : gk = 0
    · subst hg0
      have HV : Hid (valN z 20 = (valN a 20 - valN b 20) % M) := H.out.fin HZ.out
      have e0 : ((0 : Nat) : Int) - 1 = -1 := rfl
      rw [e0]
      go_wp2_with (first | (refine wpList_load_row rfl 31 _ rfl (w.heap.size + 1 + 1 + 1) rfl 31 (vec z) (0, 0) _ Rz Try.underlying31 rfl (hi31 z) ?_) | (refine wpList_store_row rfl 31 _ _ rfl (w.heap.size + 1 + 1) (vec z) rfl rfl 31 _ Rr (hi31 z) rfl (vec_one z) ?_))
      refine bodyPost_ret (v := .agg (vec z)) (results_cell_row Try.results14 _ _ (w.heap.size + 1 + 1) 31 (vec z) (0, 0) _ rfl (Rr.set z) Try.underlying31 rfl (hi31 z)) rfl ?_
      exact ⟨z, rfl, HZ, HV, below_setRow hbe (by omega) _⟩
    · obtain ⟨k, rfl⟩ : ∃ k, gk = k + 1 := ⟨gk - 1, by omega⟩
      have ek : ((k + 1 : Nat) : Int) - 1 = (k : Int) := by omega
      rw [ek]
      have hk20 : k < 20 := by omega
      have ca := Ra.cell hk20
      have cb := Rb.cell hk20
      have cz := Rz.cell hk20
      have fz := Rz.frozen k
      have ba := HA.out k
      have bb := HB.out k
      obtain ⟨ba0, ba1⟩ := ba
      obtain ⟨bb0, bb1⟩ := bb
      by_cases hd : a k - b k - br < 0
      · have HK : Hid (SubK a b (fun j => if j = k then a k - b k - br + 256 else z j) k 1) := H.out.step hk20 (by omega)
        have HBz : Hid (Bytes (fun j => if j = k then a k - b k - br + 256 else z j)) := bytes_upd HZ.out k _ (by omega) (by omega)
        clear H HZ
        go_wp2
        go_quiet (fail)
        go_wp2
        go_roundg k
        case measure => omega
        case rel => exact ⟨1, _, by omega, rfl, rfl, by omega, by omega, HBz, Row20.other (w := wr.drewN nq) Ra (by show _ ≠ w.heap.size + 1 + 1 + 1; omega) _, Row20.other (w := wr.drewN nq) Rb (by show _ ≠ w.heap.size + 1 + 1 + 1; omega) _, Row20.other (w := wr.drewN nq) Rr (by show _ ≠ w.heap.size + 1 + 1 + 1; omega) _, Row20.step (w := wr.drewN nq) Rz k _, Below.setCell (below_drewN hbe nq) (p := ⟨w.heap.size + 1 + 1 + 1, k, none⟩) (by show w.heap.size ≤ w.heap.size + 1 + 1 + 1; omega) _, HK⟩
      · have HK : Hid (SubK a b (fun j => if j = k then a k - b k - br else z j) k 0) := H.out.step hk20 (by omega)
        have HBz : Hid (Bytes (fun j => if j = k then a k - b k - br else z j)) := bytes_upd HZ.out k _ (by omega) (by omega)
        clear H HZ
        go_wp2
        go_quiet (fail)
        go_wp2
        go_roundg k
        case measure => omega
        case rel => exact ⟨0, _, by omega, rfl, rfl, by omega, by omega, HBz, Row20.other (w := wr.drewN nq) Ra (by show _ ≠ w.heap.size + 1 + 1 + 1; omega) _, Row20.other (w := wr.drewN nq) Rb (by show _ ≠ w.heap.size + 1 + 1 + 1; omega) _, Row20.other (w := wr.drewN nq) Rr (by show _ ≠ w.heap.size + 1 + 1 + 1; omega) _, Row20.step (w := wr.drewN nq) Rz k _, Below.setCell (below_drewN hbe nq) (p := ⟨w.heap.size + 1 + 1 + 1, k, none⟩) (by show w.heap.size ≤ w.heap.size + 1 + 1 + 1; omega) _, HK⟩
end Go.Proofs.Qxb6608999a
