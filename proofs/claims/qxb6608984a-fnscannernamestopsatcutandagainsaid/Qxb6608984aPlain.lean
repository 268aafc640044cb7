import Derived.RowKit
/-! Names without Go: which bytes may stand in one, and where a run of them ends. -/
namespace Go.Proofs.Qxb6608984a

/-- [a-zA-Z0-9_:] -/
def nbI (c : Int) : Bool := decide ((97 ≤ c ∧ c ≤ 122) ∨ (65 ≤ c ∧ c ≤ 90) ∨ (48 ≤ c ∧ c ≤ 57) ∨ c = 95 ∨ c = 58)

theorem nbI_cases (c : Int) : (nbI c = true ∧ ((97 ≤ c ∧ c ≤ 122) ∨ (65 ≤ c ∧ c ≤ 90) ∨ (48 ≤ c ∧ c ≤ 57) ∨ (95 ≤ c ∧ c ≤ 95) ∨ (58 ≤ c ∧ c ≤ 58))) ∨
    (nbI c = false ∧ (c < 48 ∨ (58 < c ∧ c < 65) ∨ (90 < c ∧ c < 95) ∨ (95 < c ∧ c < 97) ∨ 122 < c)) := by
  by_cases h : (97 ≤ c ∧ c ≤ 122) ∨ (65 ≤ c ∧ c ≤ 90) ∨ (48 ≤ c ∧ c ≤ 57) ∨ c = 95 ∨ c = 58
  · left; unfold nbI; exact ⟨by simp [h], by omega⟩
  · right; unfold nbI; exact ⟨by simp [h], by omega⟩

/-- Is there a name byte at k? -/
def nbAt (s : ByteArray) (k : Nat) : Bool := if h : k < s.size then nbI ((s[k]'h).toNat : Int) else false

theorem nbAt_in {s : ByteArray} {k : Nat} (h : k < s.size) : nbAt s k = nbI ((s[k]'h).toNat : Int) := by unfold nbAt; rw [dif_pos h]
theorem nbAt_out {s : ByteArray} {k : Nat} (h : ¬ k < s.size) : nbAt s k = false := by unfold nbAt; rw [dif_neg h]

/-- The run from i on ends at e. -/
structure IsEnd (s : ByteArray) (i e : Nat) : Prop where
  le : i ≤ e
  size : e ≤ s.size
  run : ∀ k, i ≤ k → k < e → nbAt s k = true
  stop : nbAt s e = false

theorem IsEnd.unique {s : ByteArray} {i e e' : Nat} (h : IsEnd s i e) (h' : IsEnd s i e') : e = e' := by
  rcases Nat.lt_trichotomy e e' with h1 | h1 | h1
  · have := h'.run e h.le h1; rw [h.stop] at this; cases this
  · exact h1
  · have := h.run e' h'.le h1; rw [h'.stop] at this; cases this

/-- From a place inside the run the end is the same. -/
theorem IsEnd.later {s : ByteArray} {i e j : Nat} (h : IsEnd s i e) (h1 : i ≤ j) (h2 : j ≤ e) : IsEnd s j e :=
  ⟨h2, h.size, fun k hk hke => h.run k (by omega) hke, h.stop⟩

end Go.Proofs.Qxb6608984a
