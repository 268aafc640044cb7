import Derived.Test.Qxb6608984aName
namespace Go.Proofs.Qxb6608984a
open Go.ChangeShapes Go.WideShapes Go.ChangeAt Go.RowKit
set_option linter.unusedVariables false

set_option maxHeartbeats 1000000 in
theorem scan_any (s bl : ByteArray) (i : Nat) (w : World) (hs : s.size ≤ 65536) (hi : i ≤ s.size) :
    Calls Try.prog 16 #[.string s, .int .i64 i, .string bl] w fun x w' => ∃ e : Nat, x = .returned (.tuple #[.string (s.extract i e), .int .i64 e]) ∧ Hid (IsEnd s i e) ∧ Below w.heap.size w w' := by
  have HR : Hid (scRow (w.alloc (.cells #[.string s, .int .i64 i, .string bl] 41)) w.heap.size s bl i) :=
    (World.rowIs_alloc w #[.string s, .int .i64 i, .string bl] 41 _ (fun j hj => by
      match j, hj with
      | 0, _ => rfl
      | 1, _ => rfl
      | 2, _ => rfl))
  go_enter Try.func16, Try.ntmps16
  go_wp2_with fail
  refine (name_any w.heap.size i s bl _ hs hi HR.out).mono ?_
  rintro x w1 ⟨e, rfl, HE, HR1, hb⟩
  have c1 := HR1.out.c1
  go_wp2
  go_quiet (fail)
  go_wp2
  go_ret2
  exact ⟨e, rfl, HE, below_drewN (((Below.refl _ _).alloc (Nat.le_refl _) _).trans hb) _⟩

set_option maxHeartbeats 400000 in
theorem bytes15_yes (s bl : ByteArray) (v1 v3 : Value) (w : World) (h1 : s.size ≤ 1048576) (h3 : s.size + bl.size ≤ 1048576) :
    Calls Try.prog 15 #[.string s, v1, .string bl, v3] w fun x w' => x = .returned (.bool true) ∧ w' = w := by
  go_enter Try.func15, Try.ntmps15
  go_wp2
  go_ret
  exact ⟨rfl, rfl⟩

set_option maxHeartbeats 400000 in
theorem bytes15_no (s bl : ByteArray) (v1 v3 : Value) (w : World) (hs : s.size ≤ 9223372036854775807) (hb : bl.size ≤ 9223372036854775807) (h : 1048576 < s.size + bl.size) :
    Calls Try.prog 15 #[.string s, v1, .string bl, v3] w fun x w' => x = .returned (.bool false) ∧ w' = w := by
  by_cases h1 : 1048576 < s.size
  · go_enter Try.func15, Try.ntmps15
    go_wp2
    go_ret
    exact ⟨rfl, rfl⟩
  by_cases h2 : 1048576 < bl.size
  · go_enter Try.func15, Try.ntmps15
    go_wp2
    go_ret
    exact ⟨rfl, rfl⟩
  · go_enter Try.func15, Try.ntmps15
    go_wp2
    go_ret
    exact ⟨rfl, rfl⟩

set_option maxHeartbeats 400000 in
theorem bytes18_yes (s bl : ByteArray) (v1 v3 : Value) (w : World) (h1 : s.size ≤ 1048576) (h3 : s.size + bl.size ≤ 1048576) :
    Calls Try.prog 18 #[.string s, v1, .string bl, v3] w fun x w' => x = .returned (.bool true) ∧ w' = w := by
  go_enter Try.func18, Try.ntmps18
  go_wp2
  go_ret
  exact ⟨rfl, rfl⟩

set_option maxHeartbeats 400000 in
theorem bytes18_no (s bl : ByteArray) (v1 v3 : Value) (w : World) (hs : s.size ≤ 9223372036854775807) (hb : bl.size ≤ 9223372036854775807) (h : 1048576 < s.size + bl.size) :
    Calls Try.prog 18 #[.string s, v1, .string bl, v3] w fun x w' => x = .returned (.bool false) ∧ w' = w := by
  by_cases h1 : 1048576 < s.size
  · go_enter Try.func18, Try.ntmps18
    go_wp2
    go_ret
    exact ⟨rfl, rfl⟩
  by_cases h2 : 1048576 < bl.size
  · go_enter Try.func18, Try.ntmps18
    go_wp2
    go_ret
    exact ⟨rfl, rfl⟩
  · go_enter Try.func18, Try.ntmps18
    go_wp2
    go_ret
    exact ⟨rfl, rfl⟩
end Go.Proofs.Qxb6608984a
