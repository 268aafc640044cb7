import Derived.Test.Qxb6608999aRows
import Derived.Test.Qxb6608999aRow20
import Derived.WalkKit
import Derived.ProofKit
import Derived.OpenShut
import Derived.Below
namespace Go.Proofs.Qxb6608999a
open Go.ChangeShapes Go.WideShapes Go.ChangeAt Go.RowKit
set_option linter.unusedVariables false

/-- An array of integers by value, opened: its cells are integers of the kind. -/
theorem open_intArray {H : Type} {enc : TypeId × Value → H} {P : Program} {W : World} {base0 base : Nat} {spare : Nat → Bool} {held : Bool} {r : Reach} {t e : TypeId} {n : Nat} {k : IntKind} {v : Value} {d : DataW H} {ps : List MemPlace}
    (ht : P.underlying t = some (.array n e)) (he : P.underlying e = some (.int k)) (hce : P.cellsOf e = 1) (hct : P.cellsOf t = n)
    (hv : Value.okWide P W r base0 t v) (h : DataW.Trod enc P W base spare held t v d ps) :
    ∃ l : List Int, l.length = n ∧ v = .agg (l.map (Value.int k)).toArray ∧ ∀ x ∈ l, (Lit.int k x).wf = true := by
  obtain ⟨cs, rfl, hsz, _⟩ : ∃ cs, v = .agg cs ∧ cs.size = P.cellsOf t ∧ Row.okWide P W r base0 t cs := by
    simpa [Value.okWide, ht] using hv
  rw [hct] at hsz
  obtain ⟨fuel, hf⟩ := h
  obtain ⟨xs, m, _, _, _, hl, hel⟩ := DataW.trod_array ht hf
  obtain ⟨cl⟩ := cs
  have hcl : cl.length = n := by simpa using hsz
  have key : ∀ i, i < n → ∃ x, cl[i]? = some (.int k x) ∧ (Lit.int k x).wf = true := by
    intro i hi
    have h1 := hel i hi
    rw [hce, Nat.mul_one] at h1
    have h2 : ∃ y, xs[i]? = some y := ⟨xs[i]'(by omega), List.getElem?_eq_getElem (by omega)⟩
    obtain ⟨y, hy⟩ := h2
    rw [hy] at h1
    obtain ⟨x, h3, _, h4⟩ := DataW.trod_int he h1
    refine ⟨x, ?_, h4⟩
    have h5 : ((cl.drop i).take 1)[0]? = some (.int k x) := by
      have h6 : (Value.cells (.agg ⟨cl⟩)).toList = cl := rfl
      rw [h6] at h3
      rw [h3]; rfl
    rw [List.getElem?_take, if_pos (by omega), List.getElem?_drop] at h5
    simpa using h5
  refine ⟨cl.map intOf, by simpa using hcl, ?_, ?_⟩
  · congr 1
    rw [List.map_map]
    have : cl = cl.map (Value.int k ∘ intOf) := by
      apply List.ext_getElem?
      intro i
      rcases Nat.lt_or_ge i n with h | h
      · obtain ⟨x, hx, _⟩ := key i h
        rw [List.getElem?_map, hx]
        rfl
      · rw [List.getElem?_eq_none (by omega), List.getElem?_eq_none (by simp; omega)]
    exact congrArg List.toArray this
  · intro x hx
    obtain ⟨v, hv, rfl⟩ := List.mem_map.1 hx
    obtain ⟨i, hi, hiv⟩ := List.getElem_of_mem hv
    obtain ⟨y, hy, hw⟩ := key i (by omega)
    rw [List.getElem?_eq_getElem hi, hiv] at hy
    injection hy with hy
    subst hy
    exact hw

/-- Twenty bytes that came in, as a vec. -/
theorem vec_of_list (l : List Int) (h : l.length = 20) : (l.map (Value.int .u8)).toArray = vec (fun k => l.getD k 0) := by
  refine vec_ext (by simpa using h) (fun k hk => ?_)
  have hk' : k < l.length := by omega
  simp [hk']

theorem bytes_of_list (l : List Int) (h : ∀ x ∈ l, (Lit.int .u8 x).wf = true) : Bytes (fun k => l.getD k 0) := by
  intro k
  rcases Nat.lt_or_ge k l.length with hk | hk
  · have : l.getD k 0 ∈ l := by rw [List.getD_eq_getElem?_getD, List.getElem?_eq_getElem hk]; exact List.getElem_mem hk
    exact bounds_u8 (h _ this)
  · show 0 ≤ l.getD k 0 ∧ l.getD k 0 ≤ 255
    rw [List.getD_eq_getElem?_getD, List.getElem?_eq_none hk]; exact ⟨by decide, by decide⟩

end Go.Proofs.Qxb6608999a
