import Derived.Test.Qxb6608984aRows
import Derived.Test.Qxb6608984aPlain
import Derived.WalkKit
import Derived.ProofKit
import Derived.WalkSpells
import Derived.WalkSmall
import Derived.Deep.QuietTactic
import Derived.BigQuiet
import Derived.Deep.OwnRows
import Derived.Deep.DeepCutAuto
import Derived.Deep.LoopGhost
namespace Go.Proofs.Qxb6608984a
open Go.ChangeShapes Go.WideShapes Go.ChangeAt Go.RowKit
set_option linter.unusedVariables false

set_option maxHeartbeats 1000000 in
theorem nameByte_any (c : Int) (w : World) (h0 : 0 ≤ c) (h1 : c ≤ 255) :
    Calls Try.prog 17 #[.int .u8 c] w fun e w' => e = .returned (.bool (nbI c)) ∧ w' = w := by
  rcases nbI_cases c with ⟨hn, h⟩ | ⟨hn, h⟩
  · have HN : Hid (nbI c = true) := hn
    clear hn
    rcases h with ⟨ha, hb⟩ | ⟨ha, hb⟩ | ⟨ha, hb⟩ | h | h
    · go_enter Try.func17, Try.ntmps17
      go_wp2
      go_ret
      exact ⟨congrArg (fun z => Ending.returned (.bool z)) (by rw [HN.out]), rfl⟩
    · go_enter Try.func17, Try.ntmps17
      go_wp2
      go_ret
      exact ⟨congrArg (fun z => Ending.returned (.bool z)) (by rw [HN.out]), rfl⟩
    · go_enter Try.func17, Try.ntmps17
      go_wp2
      go_ret
      exact ⟨congrArg (fun z => Ending.returned (.bool z)) (by rw [HN.out]; first | done | rfl | (simp; done) | (simp; omega)), rfl⟩
    · obtain rfl : c = 95 := by omega
      go_enter Try.func17, Try.ntmps17
      go_wp2
      go_ret
      exact ⟨rfl, rfl⟩
    · obtain rfl : c = 58 := by omega
      go_enter Try.func17, Try.ntmps17
      go_wp2
      go_ret
      exact ⟨rfl, rfl⟩
  · have HN : Hid (nbI c = false) := hn
    clear hn
    rcases h with h | ⟨ha, hb⟩ | ⟨ha, hb⟩ | ⟨ha, hb⟩ | h
    all_goals
      go_enter Try.func17, Try.ntmps17
      go_wp2
      go_ret
      exact ⟨congrArg (fun z => Ending.returned (.bool z)) (by rw [HN.out]; first | rfl | (simp; done) | (simp; omega)), rfl⟩

/-- The scanner at block p. -/
def scRow (w : World) (p : Nat) (s bl : ByteArray) (k : Nat) : Prop := w.rowIs p 41 3 (fun i => if i = 0 then .string s else if i = 1 then .int .i64 k else .string bl)

theorem scRow.c0 {w : World} {p : Nat} {s bl : ByteArray} {k : Nat} (h : scRow w p s bl k) : w.cell? ⟨p, 0, none⟩ = some (.string s) := World.rowIs.cell (i := 0) h (by omega)
theorem scRow.c1 {w : World} {p : Nat} {s bl : ByteArray} {k : Nat} (h : scRow w p s bl k) : w.cell? ⟨p, 1, none⟩ = some (.int .i64 k) := World.rowIs.cell (i := 1) h (by omega)
theorem scRow.f1 {w : World} {p : Nat} {s bl : ByteArray} {k : Nat} (h : scRow w p s bl k) : w.frozen? ⟨p, 1, none⟩ = false := World.rowIs.frozen h 1
theorem scRow.drewN {w : World} {p : Nat} {s bl : ByteArray} {k : Nat} (h : scRow w p s bl k) (m : Nat) : scRow (w.drewN m) p s bl k := h
theorem scRow.step {w : World} {p : Nat} {s bl : ByteArray} {k k' : Nat} (h : scRow w p s bl k) : scRow (w.setCell ⟨p, 1, none⟩ (.int .i64 k')) p s bl k' :=
  (World.rowIs.set h 1 _).congr (fun i hi => by
    match i, hi with
    | 0, _ => rfl
    | 1, _ => rfl
    | 2, _ => rfl)

set_option maxHeartbeats 2000000 in
theorem name_any (p i : Nat) (s bl : ByteArray) (w : World) (hs : s.size ≤ 65536) (hi : i ≤ s.size) (hr : scRow w p s bl i) :
    Calls Try.prog 21 #[.pointer (some ⟨p, 0, none⟩)] w fun x w' => ∃ e : Nat, x = .returned (.string (s.extract i e)) ∧ Hid (IsEnd s i e) ∧ Hid (scRow w' p s bl e) ∧ Below p w w' := by
  have d1 := hr.c1
  go_enter Try.func21, Try.ntmps21
  go_wp2
  clear d1
  go_loopg [4] (s.size + 1 - i) (fun g u wr => ∃ k : Nat, g + k = s.size + 1 ∧ i ≤ k ∧ k ≤ s.size ∧ scRow wr p s bl k ∧ Below p w wr ∧ Hid (∀ t, i ≤ t → t < k → nbAt s t = true))
  case atStart => exact ⟨i, by omega, Nat.le_refl _, hi, hr, Below.refl _ _, fun t h1 h2 => by omega⟩
  case round =>
    clear hr
    obtain ⟨k, hgk, hik, hks, hrow, hbe, H⟩ := hrel
    have c0 := hrow.c0
    have c1 := hrow.c1
    by_cases hlt : k < s.size
    · have hlt' : (k : Int) < (s.size : Int) := by omega
      go_wp2
      go_quiet (fail)
      go_wp2
      go_quiet (fail)
      go_upto_region 4 with fail
      have hcb : 0 ≤ (s[k].toNat : Int) ∧ (s[k].toNat : Int) ≤ 255 := ⟨by omega, by have := s[k].toNat_lt; omega⟩
      have HK : Hid (nbAt s k = nbI (s[k].toNat : Int)) := nbAt_in hlt
      generalize (s[k].toNat : Int) = c at *
      go_cut [58] (fun v wc => v = .bool (!nbI c) ∧ ∃ m, wc = wr.drewN m)
      case first =>
        clear c0 c1 hrow hbe H
        obtain ⟨hc0, hc1⟩ := hcb
        rcases nbI_cases c with ⟨hn, h⟩ | ⟨hn, h⟩
        · have HN : Hid (nbI c = true) := hn
          clear hn
          rcases h with ⟨ha, hb⟩ | ⟨ha, hb⟩ | ⟨ha, hb⟩ | h | h
          · go_wp2
            go_meet
            exact ⟨congrArg Value.bool (by rw [HN.out]; first | rfl | (simp; done) | (simp; omega)), _, rfl⟩
          · go_wp2
            go_meet
            exact ⟨congrArg Value.bool (by rw [HN.out]; first | rfl | (simp; done) | (simp; omega)), _, rfl⟩
          · go_wp2
            go_meet
            exact ⟨congrArg Value.bool (by rw [HN.out]; first | rfl | (simp; done) | (simp; omega)), _, rfl⟩
          · obtain rfl : c = 95 := by omega
            go_wp2
            go_meet
            exact ⟨rfl, _, rfl⟩
          · obtain rfl : c = 58 := by omega
            go_wp2
            go_meet
            exact ⟨rfl, _, rfl⟩
        · have HN : Hid (nbI c = false) := hn
          clear hn
          rcases h with h | ⟨ha, hb⟩ | ⟨ha, hb⟩ | ⟨ha, hb⟩ | h
          all_goals
            go_wp2
            go_meet
            exact ⟨congrArg Value.bool (by rw [HN.out]; first | rfl | (simp; done) | (simp; omega)), _, rfl⟩
      case rest =>
        obtain ⟨rfl, m, rfl⟩ := hcut
        rw [← HK.out]
        cases hb : nbAt s k with
        | true =>
          have H2 : Hid (∀ t, i ≤ t → t < k + 1 → nbAt s t = true) := fun t h1 h2 => by
            by_cases e : t = k
            · rw [e]; exact hb
            · exact H.out t h1 (by omega)
          have f1 := hrow.f1
          clear hb
          go_wp2
          go_roundg (gk - 1)
          case measure => omega
          case rel => exact ⟨k + 1, by omega, by omega, by omega, scRow.step (w := wr.drewN m) (k' := k + 1) hrow, Below.setCell (below_drewN hbe m) (p := ⟨p, 1, none⟩) (Nat.le_refl _) _, H2⟩
        | false =>
          have HE : Hid (IsEnd s i k) := ⟨hik, hks, H.out, hb⟩
          clear hb
          go_wp2
          go_quiet (fail)
          go_wp2
          go_ret
          exact ⟨k, rfl, HE, hrow, below_drewN (below_drewN hbe _) _⟩
    · have hlt' : ¬ (k : Int) < (s.size : Int) := by omega
      have HE : Hid (IsEnd s i k) := ⟨hik, hks, H.out, nbAt_out hlt⟩
      go_wp2
      go_quiet (fail)
      go_wp2
      go_quiet (fail)
      go_wp2
      go_ret
      exact ⟨k, rfl, HE, hrow, below_drewN (below_drewN hbe _) _⟩
end Go.Proofs.Qxb6608984a
