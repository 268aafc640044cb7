import Derived.Test.Qxb6615076aStrong
import Derived.Test.Qxb6615076aTable
import Derived.Deep.RegionWith
namespace Go.Proofs.Qxb6615076a
open Go.ChangeShapes Go.WideShapes Go.ChangeAt Go.RowKit
set_option linter.unusedVariables false

/-- weakBase to the k, modulo 2^32, as the loop reckons it. -/
def powW : Nat → Int
  | 0 => 1
  | k + 1 => powW k * 2654435761 % 4294967296

theorem powW_bounds : ∀ k, 0 ≤ powW k ∧ powW k ≤ 4294967295
  | 0 => by simp [powW]
  | k + 1 => by unfold powW; omega

theorem Try.info5 : (Try.prog.info? 5).map (fun i => (i.zero, i.size, i.bytes)) = some (some (.int .u8 0), 1, 1) := by kernel_rfl

/-- The table's two rows. -/
structure TRows (w : World) (sp np sh N n : Nat) (d : Nat → Int) (ss : Nat) : Prop where
  srow : w.rowIs sp 21 N (fun s => .int .i32 (headV (sameB d ss) (slotB d ss sh) n s))
  nrow : w.rowIs np 3 n (fun j => .int .i64 (nextV (sameB d ss) (slotB d ss sh) j))

section
variable {w w' : World} {sp np sh N n ss : Nat} {d : Nat → Int}
theorem TRows.grow (h : TRows w sp np sh N n d ss) (hb : Below w.heap.size w w') : TRows w' sp np sh N n d ss :=
  ⟨h.srow.of_block (hb.block _ h.srow.lt), h.nrow.of_block (hb.block _ h.nrow.lt)⟩
theorem TRows.alloc (h : TRows w sp np sh N n d ss) (o : Obj) : TRows (w.alloc o) sp np sh N n d ss := ⟨h.srow.alloc o, h.nrow.alloc o⟩
theorem TRows.drewN (h : TRows w sp np sh N n d ss) (m : Nat) : TRows (w.drewN m) sp np sh N n d ss := ⟨h.srow, h.nrow⟩
end

/-- The Differ as it lies at dp. -/
structure DiffAt (w w' : World) (dp sp np sh N n : Nat) (pw : Int) (d : Nat → Int) (ss : Nat) : Prop where
  below : Below w.heap.size w w'
  rows : TRows w' sp np sh N n d ss
  c1 : w'.cell? ⟨dp, 1, none⟩ = some (.int .u64 sh)
  c2 : w'.cell? ⟨dp, 2, none⟩ = some (.slice (some ⟨sp, 0, none⟩) N N)
  c3 : w'.cell? ⟨dp, 3, none⟩ = some (.slice (some ⟨np, 0, none⟩) n n)
  c5 : w'.cell? ⟨dp, 5, none⟩ = some (.int .u32 pw)

theorem differ_end {w W : World} {dp sp np sh N n ss : Nat} {pw : Int} {d : Nat → Int} (hr : TRows W sp np sh N n d ss) (hb : Below w.heap.size w W) (hdp : dp = W.heap.size) (v0 v4 : Value) (rest : List Value) (t : TypeId) :
    DiffAt w (W.alloc (.cells (v0 :: .int .u64 sh :: .slice (some ⟨sp, 0, none⟩) N N :: .slice (some ⟨np, 0, none⟩) n n :: v4 :: .int .u32 pw :: rest).toArray t)) dp sp np sh N n pw d ss where
  below := hb.alloc hb.size _
  rows := hr.alloc _
  c1 := by subst hdp; simp
  c2 := by subst hdp; simp
  c3 := by subst hdp; simp
  c5 := by subst hdp; simp

theorem buf_len (bs : Nat) (h : bs ≤ 65536) : IntKind.i64.wrap (IntKind.i64.wrap (65536 + (bs : Int)) + 65536) = ((bs + 131072 : Nat) : Int) := by
  have e : ∀ x : Int, 0 ≤ x → x ≤ 1000000 → IntKind.i64.wrap x = x := fun x h0 h1 => by
    rw [IntWalk.i64_left]
    exact IntWalk.wrap64_in x ⟨by omega, by omega⟩
  rw [e (65536 + (bs : Int)) (by omega) (by omega), e _ (by omega) (by omega)]
  omega

theorem below_alloc' {w W : World} (h : Below w.heap.size w W) (o : Obj) : Below w.heap.size w (W.alloc o) := h.alloc h.size o

set_option maxRecDepth 100000 in
set_option maxHeartbeats 2000000 in
theorem newDiffer_any (p q L ss n bs : Nat) (sz : Int) (d : Nat → Int) (w : World) (sg : SigAt w p q L ss n bs sz d) (ok : SigOk L ss n bs sz d) (hp : p < w.heap.size) (hq : 0 < n → q < w.heap.size) :
    Calls Try.prog 13 #[.pointer (some ⟨p, 0, none⟩), .nilIface] w fun x w' => ∃ dp sp np sh N b : Nat, x = .returned (.pointer (some ⟨dp, 0, none⟩)) ∧ Hid (sh + b = 32 ∧ 1 ≤ b ∧ N = 2 ^ b) ∧ DiffAt w w' dp sp np sh N n (powW bs) d ss := by
  have bb : bs ≤ 65536 := by have := ok.b2; omega
  have c0 := sg.c0
  have hT : ∀ W, Below w.heap.size w W → Calls Try.prog 26 #[.pointer (some ⟨p, 0, none⟩)] W fun x w' => ∃ sp np sh N b : Nat, Hid (sh + b = 32 ∧ 1 ≤ b ∧ N = 2 ^ b) ∧ x = .returned (.agg #[.int .u64 sh, .slice (some ⟨sp, 0, none⟩) N N, .slice (some ⟨np, 0, none⟩) n n]) ∧ TRows w' sp np sh N n d ss ∧ Below w.heap.size w w' := by
    intro W hb
    refine (newTable_any p q L ss n bs sz d W (sg.below hb hp hq) ok (Nat.lt_of_lt_of_le hp hb.size) (fun h => Nat.lt_of_lt_of_le (hq h) hb.size)).mono ?_
    rintro e w' ⟨sp, np, sh, N, b, h1, h2, h3, h4, h5⟩
    exact ⟨sp, np, sh, N, b, ⟨h1, h2, h3⟩, h4, ⟨h5.srow, h5.nrow⟩, hb.trans (h5.below.mono hb.size)⟩
  have hS : ∀ W, Below w.heap.size w W → Calls Try.prog 27 #[.pointer (some ⟨p, 0, none⟩)] W fun x w' => ∃ sb : Nat, x = .returned (.pointer (some ⟨sb, 0, none⟩)) ∧ Below w.heap.size w w' ∧ Below W.heap.size W w' := by
    intro W hb
    refine (strong_any p ss W (Nat.lt_of_lt_of_le hp hb.size) (sg.below hb hp hq).c18).mono ?_
    rintro e w' ⟨sb, h1, h2⟩
    exact ⟨sb, h1, hb.trans (h2.mono hb.size), h2⟩
  have hH : ∀ W, Below w.heap.size w W → Calls Try.prog 28 #[] W fun x w' => ∃ sb : Nat, x = .returned (.iface 73 (.pointer (some ⟨sb, 0, none⟩))) ∧ Below w.heap.size w w' ∧ Below W.heap.size W w' := by
    intro W hb
    refine (shaNew_any W).mono ?_
    rintro e w' ⟨h1, h2⟩
    exact ⟨_, h1, hb.trans (h2.mono hb.size), h2⟩
  have HT : Hid (∀ W, Below w.heap.size w W → Calls Try.prog 26 #[.pointer (some ⟨p, 0, none⟩)] W fun x w' => ∃ sp np sh N b : Nat, Hid (sh + b = 32 ∧ 1 ≤ b ∧ N = 2 ^ b) ∧ x = .returned (.agg #[.int .u64 sh, .slice (some ⟨sp, 0, none⟩) N N, .slice (some ⟨np, 0, none⟩) n n]) ∧ TRows w' sp np sh N n d ss ∧ Below w.heap.size w w') := hT
  have HS : Hid (∀ W, Below w.heap.size w W → Calls Try.prog 27 #[.pointer (some ⟨p, 0, none⟩)] W fun x w' => ∃ sb : Nat, x = .returned (.pointer (some ⟨sb, 0, none⟩)) ∧ Below w.heap.size w w' ∧ Below W.heap.size W w') := hS
  have HH : Hid (∀ W, Below w.heap.size w W → Calls Try.prog 28 #[] W fun x w' => ∃ sb : Nat, x = .returned (.iface 73 (.pointer (some ⟨sb, 0, none⟩))) ∧ Below w.heap.size w w' ∧ Below W.heap.size W w') := hH
  have hmk := run_make_row' (P := Try.prog) 27 5 (.int .u8 0) 1 Try.underlying27 Try.info5 rfl .i64 .i64 (bs + 131072) (by omega) (by omega)
  have hmk' : ∀ w : World, (Instr.makeSlice 27 (.int .i64 (IntKind.i64.wrap (IntKind.i64.wrap (65536 + (bs : Int)) + 65536))) (.int .i64 (IntKind.i64.wrap (IntKind.i64.wrap (65536 + (bs : Int)) + 65536)))).run Try.prog w = .ok (.slice (some ⟨w.heap.size, 0, none⟩) (bs + 131072) (bs + 131072)) (w.alloc (.cells (madeCells #[.int .u8 0] (bs + 131072)) 5)) := by
    intro w
    have e : IntKind.i64.wrap (IntKind.i64.wrap (65536 + (bs : Int)) + 65536) = ((bs + 131072 : Nat) : Int) := buf_len bs bb
    rw [e]; exact hmk w
  clear hT hS hH sg ok hmk
  go_enter Try.func13, Try.ntmps13
  go_wp2
  go_loop [5, 10] (fun v i => ∃ k : Nat, k ≤ bs ∧ i = .int .i64 k ∧ v = .int .u32 (powW k)) (fun _ i => bs - (intOf i).toNat)
  case atStart => exact ⟨0, Nat.zero_le _, rfl, rfl⟩
  case round =>
    obtain ⟨k, hk, rfl, rfl⟩ := hrel
    by_cases hlt : k < bs
    · go_wp2
      go_round
      case rel => exact ⟨k + 1, by omega, by go_num, rfl⟩
      case measure => simp [intOf]; omega
    · obtain rfl : k = bs := by omega
      clear hlt hk
      go_wp2
      go_region_with (first
        | (go_at_call 26; refine (HT.out _ ?_).mono ?_; (repeat (first | exact Below.refl _ _ | assumption | refine Below.drew ?_ | refine below_alloc' ?_ _)); rintro e w1 ⟨sp, np, sh, N, b, hshb, rfl, hrows, hb1⟩; have hbc1 := bcell hb1)
        | (go_at_call 27; refine (HS.out _ ?_).mono ?_; (repeat (first | exact Below.refl _ _ | assumption | refine Below.drew ?_ | refine below_alloc' ?_ _)); rintro e w2 ⟨sb, rfl, hb2, hg2⟩; have hbc2 := bcell hb2)
        | (go_at_call 28; refine (HH.out _ ?_).mono ?_; (repeat (first | exact Below.refl _ _ | assumption | refine Below.drew ?_ | refine below_alloc' ?_ _)); rintro e w3 ⟨hb, rfl, hb3, hg3⟩; have hbc3 := bcell hb3))
      all_goals
        go_wp2
        go_ret
        refine ⟨_, sp, np, sh, N, b, rfl, hshb, differ_end ?_ ?_ (by first | rfl | simp) _ _ _ _⟩
        · repeat (first | exact hrows | refine TRows.alloc ?_ _ | refine TRows.grow ?_ hg3 | refine TRows.grow ?_ hg2)
        · repeat (first | exact Below.refl _ _ | assumption | refine Below.drew ?_ | refine below_alloc' ?_ _)
end Go.Proofs.Qxb6615076a
