import Derived.RowKit
/-! The table of a signature, without Go: which block heads a chain, which one follows. -/
namespace Go.Proofs.Qxb6615076a

/-- The greatest i below k with P i, or -1. -/
def prevI (P : Nat → Bool) : Nat → Int
  | 0 => -1
  | k + 1 => if P k then (k : Int) else prevI P k

theorem prevI_bounds (P : Nat → Bool) : ∀ k, -1 ≤ prevI P k ∧ prevI P k < k
  | 0 => by simp [prevI]
  | k + 1 => by
    have := prevI_bounds P k
    unfold prevI
    split <;> omega

theorem prevI_spec (P : Nat → Bool) : ∀ k, (prevI P k = -1 ∧ ∀ t, t < k → P t = false) ∨ ∃ i : Nat, prevI P k = (i : Int) ∧ i < k ∧ P i = true ∧ ∀ t, i < t → t < k → P t = false
  | 0 => .inl ⟨rfl, fun t h => by omega⟩
  | k + 1 => by
    by_cases hk : P k = true
    · exact .inr ⟨k, by simp [prevI, hk], by omega, hk, fun t h1 h2 => by omega⟩
    · have hk' : P k = false := by simpa using hk
      have e : prevI P (k + 1) = prevI P k := by simp [prevI, hk']
      rcases prevI_spec P k with ⟨h1, h2⟩ | ⟨i, h1, h2, h3, h4⟩
      · refine .inl ⟨by rw [e, h1], fun t ht => ?_⟩
        by_cases htk : t = k
        · rw [htk]; exact hk'
        · exact h2 t (by omega)
      · refine .inr ⟨i, by rw [e, h1], by omega, h3, fun t h5 h6 => ?_⟩
        by_cases htk : t = k
        · rw [htk]; exact hk'
        · exact h4 t h5 (by omega)

theorem prevI_congr {P Q : Nat → Bool} : ∀ k, (∀ t, t < k → P t = Q t) → prevI P k = prevI Q k
  | 0, _ => rfl
  | k + 1, h => by
    unfold prevI
    rw [h k (by omega), prevI_congr k (fun t ht => h t (by omega))]

/-- No earlier block has the same sums. -/
def firstB (same : Nat → Nat → Bool) (k : Nat) : Bool := decide (∀ i, i < k → same i k = false)

theorem firstB_true {same : Nat → Nat → Bool} {k : Nat} : firstB same k = true ↔ ∀ i, i < k → same i k = false := by unfold firstB; simp
theorem firstB_false {same : Nat → Nat → Bool} {k : Nat} : firstB same k = false ↔ ∃ i, i < k ∧ same i k = true := by unfold firstB; simp

def inSlot (same : Nat → Nat → Bool) (slot : Nat → Nat) (s i : Nat) : Bool := slot i == s && firstB same i

theorem inSlot_true {same : Nat → Nat → Bool} {slot : Nat → Nat} {s i : Nat} : inSlot same slot s i = true ↔ slot i = s ∧ firstB same i = true := by unfold inSlot; simp

/-- The head of slot s, plus one, once k blocks have been laid. -/
def headV (same : Nat → Nat → Bool) (slot : Nat → Nat) (k s : Nat) : Int := prevI (inSlot same slot s) k + 1
/-- The block behind j. -/
def nextV (same : Nat → Nat → Bool) (slot : Nat → Nat) (j : Nat) : Int := if firstB same j then prevI (inSlot same slot (slot j)) j else -1

theorem headV_bounds (same : Nat → Nat → Bool) (slot : Nat → Nat) (k s : Nat) : 0 ≤ headV same slot k s ∧ headV same slot k s ≤ k := by
  have := prevI_bounds (inSlot same slot s) k
  unfold headV; omega

theorem nextV_bounds (same : Nat → Nat → Bool) (slot : Nat → Nat) (j : Nat) : -1 ≤ nextV same slot j ∧ nextV same slot j < j := by
  have := prevI_bounds (inSlot same slot (slot j)) j
  unfold nextV; split <;> omega

theorem headV_zero (same : Nat → Nat → Bool) (slot : Nat → Nat) (s : Nat) : headV same slot 0 s = 0 := rfl

theorem headV_dup {same : Nat → Nat → Bool} {slot : Nat → Nat} {k : Nat} (h : firstB same k = false) (s : Nat) : headV same slot (k + 1) s = headV same slot k s := by
  unfold headV; simp [prevI, inSlot, h]

theorem headV_new {same : Nat → Nat → Bool} {slot : Nat → Nat} {k : Nat} (h : firstB same k = true) (s : Nat) :
    headV same slot (k + 1) s = if s = slot k then (k : Int) + 1 else headV same slot k s := by
  unfold headV
  by_cases e : s = slot k
  · simp [prevI, inSlot, h, e]
  · have e' : ¬ slot k = s := fun x => e x.symm
    simp [prevI, inSlot, h, e, e']

theorem nextV_dup {same : Nat → Nat → Bool} {slot : Nat → Nat} {k : Nat} (h : firstB same k = false) : nextV same slot k = -1 := by unfold nextV; simp [h]
theorem nextV_new {same : Nat → Nat → Bool} {slot : Nat → Nat} {k : Nat} (h : firstB same k = true) : nextV same slot k = headV same slot k (slot k) - 1 := by
  unfold nextV headV; simp [h]

/-- What is asked of 'same': an equivalence; equals fall into one slot. -/
structure SameOk (same : Nat → Nat → Bool) (slot : Nat → Nat) : Prop where
  symm : ∀ i j, same i j = true → same j i = true
  trans : ∀ i j k, same i j = true → same j k = true → same i k = true
  slot : ∀ i j, same i j = true → slot i = slot j

/-- The least block with k's sums. -/
theorem least_same {same : Nat → Nat → Bool} : ∀ k b : Nat, same b k = true → ∃ i, i ≤ b ∧ same i k = true ∧ ∀ t, t < i → same t k = false := by
  intro k b
  induction b using Nat.strongRecOn with
  | _ b ih =>
    intro hb
    by_cases h : ∃ t, t < b ∧ same t k = true
    · obtain ⟨t, ht, hs⟩ := h
      obtain ⟨i, h1, h2, h3⟩ := ih t ht hs
      exact ⟨i, by omega, h2, h3⟩
    · refine ⟨b, Nat.le_refl _, hb, fun t ht => ?_⟩
      by_cases e : same t k = true
      · exact absurd ⟨t, ht, e⟩ h
      · simpa using e

theorem first_of_least {same : Nat → Nat → Bool} {slot : Nat → Nat} (ok : SameOk same slot) {k i : Nat} (hi : same i k = true) (hl : ∀ t, t < i → same t k = false) : firstB same i = true := by
  rw [firstB_true]
  intro t ht
  by_cases e : same t i = true
  · have := ok.trans t i k e hi
    rw [hl t ht] at this
    cases this
  · simpa using e

/-- Nothing in the chain has k's sums: k is the first that has them. -/
theorem first_of_chain {same : Nat → Nat → Bool} {slot : Nat → Nat} (ok : SameOk same slot) {k : Nat} (h : ∀ i, i < k → inSlot same slot (slot k) i = true → same i k = false) : firstB same k = true := by
  rw [firstB_true]
  intro i hi
  by_cases e : same i k = true
  · obtain ⟨i0, h1, h2, h3⟩ := least_same k i e
    have hf := first_of_least ok h2 h3
    have := h i0 (by omega) (inSlot_true.2 ⟨ok.slot _ _ h2, hf⟩)
    rw [h2] at this
    cases this
  · simpa using e

end Go.Proofs.Qxb6615076a
