import Derived.Test.Qxb6620807aCapped
namespace Go.Proofs.Qxb6620807a
open Go.RowKit
set_option linter.unusedVariables false

/-- Two ascending lists being merged into a third. -/
structure Merging (X Y Z A B : List Int) : Prop where
  z : Asc Z
  a : Asc A
  b : Asc B
  za : ∀ x ∈ Z, ∀ y ∈ A, x < y
  zb : ∀ x ∈ Z, ∀ y ∈ B, x < y
  same : ∀ x, (x ∈ Z ∨ x ∈ A ∨ x ∈ B) ↔ (x ∈ X ∨ x ∈ Y)

theorem Merging.start {X Y : List Int} (hx : Asc X) (hy : Asc Y) : Merging X Y [] X Y :=
  ⟨List.Pairwise.nil, hx, hy, fun x h => by simp at h, fun x h => by simp at h, fun x => by simp⟩
theorem asc_snoc {Z : List Int} {y : Int} (h : Asc Z) (hy : ∀ x ∈ Z, x < y) : Asc (Z ++ [y]) := by
  unfold Asc at *
  rw [List.pairwise_append]
  exact ⟨h, List.pairwise_singleton _ _, fun x hx z hz => by simp at hz; subst hz; exact hy x hx⟩

theorem Merging.left {X Y Z A B : List Int} {y : Int} (h : Merging X Y Z (y :: A) B) (hb : ∀ x ∈ B, y < x) : Merging X Y (Z ++ [y]) A B := by
  obtain ⟨h1, h2⟩ := List.pairwise_cons.1 h.a
  refine ⟨asc_snoc h.z (fun x hx => h.za x hx y (by simp)), h2, h.b, ?_, ?_, fun x => ?_⟩
  · intro x hx z hz
    rcases List.mem_append.1 hx with k | k
    · exact h.za x k z (by simp [hz])
    · simp at k; subst k; exact h1 z hz
  · intro x hx z hz
    rcases List.mem_append.1 hx with k | k
    · exact h.zb x k z hz
    · simp at k; subst k; exact hb z hz
  · rw [← h.same x]
    simp only [List.mem_append, List.mem_cons, List.not_mem_nil, or_false]
    constructor
    · rintro ((k | k) | k | k)
      · exact Or.inl k
      · exact Or.inr (Or.inl (Or.inl k))
      · exact Or.inr (Or.inl (Or.inr k))
      · exact Or.inr (Or.inr k)
    · rintro (k | (k | k) | k)
      · exact Or.inl (Or.inl k)
      · exact Or.inl (Or.inr k)
      · exact Or.inr (Or.inl k)
      · exact Or.inr (Or.inr k)
theorem Merging.flip {X Y Z A B : List Int} (h : Merging X Y Z A B) : Merging Y X Z B A :=
  ⟨h.z, h.b, h.a, h.zb, h.za, fun x => by
    have := h.same x
    constructor
    · rintro (k | k | k)
      · exact (this.1 (Or.inl k)).symm
      · exact (this.1 (Or.inr (Or.inr k))).symm
      · exact (this.1 (Or.inr (Or.inl k))).symm
    · intro k
      rcases this.2 k.symm with q | q | q
      · exact Or.inl q
      · exact Or.inr (Or.inr q)
      · exact Or.inr (Or.inl q)⟩
theorem Merging.right {X Y Z A B : List Int} {y : Int} (h : Merging X Y Z A (y :: B)) (ha : ∀ x ∈ A, y < x) : Merging X Y (Z ++ [y]) A B := (h.flip.left ha).flip
theorem Merging.both {X Y Z A B : List Int} {y : Int} (h : Merging X Y Z (y :: A) (y :: B)) : Merging X Y (Z ++ [y]) A B := by
  obtain ⟨h1, h2⟩ := List.pairwise_cons.1 h.a
  obtain ⟨h3, h4⟩ := List.pairwise_cons.1 h.b
  refine ⟨asc_snoc h.z (fun x hx => h.za x hx y (by simp)), h2, h4, ?_, ?_, fun x => ?_⟩
  · intro x hx z hz
    rcases List.mem_append.1 hx with k | k
    · exact h.za x k z (by simp [hz])
    · simp at k; subst k; exact h1 z hz
  · intro x hx z hz
    rcases List.mem_append.1 hx with k | k
    · exact h.zb x k z (by simp [hz])
    · simp at k; subst k; exact h3 z hz
  · rw [← h.same x]
    simp only [List.mem_append, List.mem_cons, List.not_mem_nil, or_false]
    constructor
    · rintro ((k | k) | k | k)
      · exact Or.inl k
      · exact Or.inr (Or.inl (Or.inl k))
      · exact Or.inr (Or.inl (Or.inr k))
      · exact Or.inr (Or.inr (Or.inr k))
    · rintro (k | (k | k) | (k | k))
      · exact Or.inl (Or.inl k)
      · exact Or.inl (Or.inr k)
      · exact Or.inr (Or.inl k)
      · exact Or.inl (Or.inr k)
      · exact Or.inr (Or.inr k)
theorem Merging.cons_lt {X Y Z A B : List Int} {y z : Int} (h : Merging X Y Z (y :: A) (z :: B)) (hlt : y < z) : ∀ x ∈ z :: B, y < x := by
  intro x hx
  rcases List.mem_cons.1 hx with rfl | k
  · exact hlt
  · have := (List.pairwise_cons.1 h.b).1 x k; omega
end Go.Proofs.Qxb6620807a
