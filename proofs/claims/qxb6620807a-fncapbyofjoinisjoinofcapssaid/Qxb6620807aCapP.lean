import Derived.Test.Qxb6620807aJoin2
namespace Go.Proofs.Qxb6620807a
open Go.RowKit
set_option linter.unusedVariables false

/-! A run cut at a counter. -/
theorem take_mem {X : List Int} {p : Nat} {m : Int} (hX : Asc X) (h : AtSplit X.length (ix X) (m + 1) p) (x : Int) : x ∈ X.take p ↔ x ∈ X ∧ x ≤ m := by
  constructor
  · intro hx
    obtain ⟨j, hj, e⟩ := List.getElem_of_mem hx
    rw [List.length_take] at hj
    have hj' : j < X.length := by omega
    have e2 : ix X j = x := by rw [getD_get hj', ← e, List.getElem_take]
    have := h.1 j (by omega)
    refine ⟨List.mem_of_mem_take hx, ?_⟩
    simp only at this
    omega
  · rintro ⟨hx, hm⟩
    obtain ⟨j, hj, e⟩ := mem_getD hx
    have hlt : j < p := by
      apply Nat.lt_of_not_le
      intro hle
      have := h.2 j hle hj
      simp only at this
      omega
    rw [← e, getD_get hj]
    have : (X.take p)[j]'(by rw [List.length_take]; omega) = X[j] := List.getElem_take
    rw [← this]
    exact List.getElem_mem _

theorem cut_run {u : Int} {X : List Int} {p : Nat} {m : Int} (hX : RunOK u X) (hm0 : 0 ≤ m) (hm1 : m ≤ 18446744073709551615) (h : AtSplit X.length (ix X) (m + 1) p) :
    RunOK (if u ≤ m then u else m) (X.take p) ∧ ∀ x, inR (if u ≤ m then u else m) (X.take p) x ↔ inR u X x ∧ x ≤ m := by
  have hmem := take_mem hX.asc h
  have h0 := hX.up0
  have h1 := hX.upM
  refine ⟨⟨?_, ?_, ?_, fun x hx => ?_, fun x hx => hX.hi x ((hmem x).1 hx).1⟩, fun x => ?_⟩
  · split <;> omega
  · split <;> omega
  · exact List.Pairwise.sublist (List.take_sublist _ _) hX.asc
  · have hl := hX.lo x ((hmem x).1 hx).1
    have := ((hmem x).1 hx).2
    split <;> omega
  · unfold inR
    rw [hmem x]
    constructor
    · rintro (k | k)
      · split at k
        · exact ⟨Or.inl k, by omega⟩
        · exact ⟨Or.inl ⟨k.1, by omega⟩, k.2⟩
      · exact ⟨Or.inr k.1, k.2⟩
    · rintro ⟨k | k, hx⟩
      · left
        refine ⟨k.1, ?_⟩
        split <;> omega
      · exact Or.inr ⟨k, hx⟩
end Go.Proofs.Qxb6620807a
