import Derived.Test.Qxb6615076aPlain
/-! What the law's own walk along a chain finds, without Go. -/
namespace Go.Proofs.Qxb6615076a

section
variable {same : Nat → Nat → Bool} {slot : Nat → Nat} {k j0 i g : Nat}

/-- j0: the least block with k's sums. -/
structure Least (same : Nat → Nat → Bool) (k j0 : Nat) : Prop where
  le : j0 ≤ k
  yes : same j0 k = true
  no : ∀ t, t < j0 → same t k = false

theorem Least.inChain (ok : SameOk same slot) (h : Least same k j0) : inSlot same slot (slot k) j0 = true :=
  inSlot_true.2 ⟨ok.slot _ _ h.yes, first_of_least ok h.yes h.no⟩

theorem Least.unique (ok : SameOk same slot) (h : Least same k j0) (hi : inSlot same slot (slot k) i = true) (hs : same i k = true) : i = j0 := by
  have hf := firstB_true.1 (inSlot_true.1 hi).2
  rcases Nat.lt_trichotomy i j0 with h1 | h1 | h1
  · rw [h.no i h1] at hs; cases hs
  · exact h1
  · have := ok.trans j0 k i h.yes (ok.symm _ _ hs)
    rw [hf j0 h1] at this; cases this

theorem next_in_chain (hi : inSlot same slot (slot k) i = true) : nextV same slot i = prevI (inSlot same slot (slot k)) i := by
  have hii := inSlot_true.1 hi
  unfold nextV; rw [hii.2, if_pos rfl, hii.1]

/-- Past i, which is not j0: j0 is found or not as before. -/
theorem found_keep (ok : SameOk same slot) (h : Least same k j0) (hig : i < g) (hs : same i k = false) (hno : ∀ t, i < t → t < g → inSlot same slot (slot k) t = false) : (i ≤ j0 ↔ g ≤ j0) := by
  constructor
  · intro h1
    rcases Nat.lt_or_ge j0 g with h2 | h2
    · rcases Nat.lt_or_ge i j0 with h3 | h3
      · have := hno j0 h3 h2
        rw [h.inChain ok] at this; cases this
      · have : i = j0 := by omega
        rw [this, h.yes] at hs; cases hs
    · exact h2
  · intro h1; omega

theorem found_end (ok : SameOk same slot) (h : Least same k j0) (hno : ∀ t, t < g → inSlot same slot (slot k) t = false) : g ≤ j0 := by
  rcases Nat.lt_or_ge j0 g with h2 | h2
  · have := hno j0 h2
    rw [h.inChain ok] at this; cases this
  · exact h2
end
end Go.Proofs.Qxb6615076a
