import Derived.Test.Qxb6620807aCapP
import Derived.Test.Qxb6620807aConv
namespace Go.Proofs.Qxb6620807a
open Go.RowKit
set_option linter.unusedVariables false

/-- The highest counter of a run. -/
def topR (u : Int) (X : List Int) : Int := lastV u X.length (ix X)
theorem le_topR {u : Int} {X : List Int} (h : RunOK u X) {x : Int} (hx : inR u X x) : x ≤ topR u X := by
  unfold topR lastV
  split
  · rename_i e
    have : X = [] := List.length_eq_zero_iff.1 e
    subst this
    rcases hx with k | k
    · exact k.2
    · simp at k
  · rename_i e
    rcases hx with k | k
    · have := h.lo _ (getD_mem (ab := X) (j := X.length - 1) (by omega)); omega
    · obtain ⟨j, hj, rfl⟩ := mem_getD k
      by_cases e2 : j = X.length - 1
      · subst e2; omega
      · have := asc_iff.1 h.asc j (X.length - 1) (by omega) (by omega); omega

/-- The highest counter that a context holds for an actor. -/
def Top (m : List Rn) (a : List UInt8) (t : Int) : Prop := (∃ r ∈ m, r.1 = a ∧ t = topR r.2.1 r.2.2) ∨ ((∀ r ∈ m, r.1 ≠ a) ∧ t = 0)

/-- c cut by o, as far as the first i runs. -/
structure CapState (m R A B : List Rn) : Prop where
  so : Sorted (R ++ B)
  ok : ∀ r ∈ R, RnOK r
  okb : ∀ r ∈ B, RnOK r
  sa : Sorted (A ++ B)
  sub : ∀ r ∈ R, ∃ s ∈ A, s.1 = r.1
  same : ∀ a t, Top m a t → ∀ x, has R a x ↔ has A a x ∧ x ≤ t

theorem CapState.start {m l : List Rn} (hl : Valid l) : CapState m [] [] l :=
  ⟨by simpa using hl.1, fun r hr => by simp at hr, hl.2, by simpa using hl.1, fun r hr => by simp at hr, fun a t _ x => by simp [has_nil]⟩

theorem not_has_of_lt {A B : List Rn} {r : Rn} (h : Sorted (A ++ r :: B)) (x : Int) : ¬ has A r.1 x := by
  rintro ⟨s, hs, e, _⟩
  have := (sorted_app.1 h).2.2 s hs r (by simp)
  rw [e] at this
  exact slt_irrefl _ this

theorem CapState.step {m R A B : List Rn} {r : Rn} (h : CapState m R A (r :: B)) {t : Int} (ht : Top m r.1 t) (uniq : ∀ t', Top m r.1 t' → t' = t) (q : Option Rn) (hq1 : ∀ s, q = some s → s.1 = r.1 ∧ RnOK s)
    (hq : ∀ x, (∃ s, q = some s ∧ inR s.2.1 s.2.2 x) ↔ inR r.2.1 r.2.2 x ∧ x ≤ t) : CapState m (R ++ q.toList) (A ++ [r]) B := by
  obtain ⟨a1, a2, a3⟩ := sorted_app.1 h.so
  obtain ⟨a4, a5⟩ := sorted_cons.1 a2
  have hnA := not_has_of_lt h.sa
  have hnR := not_has_of_lt h.so
  refine ⟨?_, ?_, fun s hs => h.okb s (by simp [hs]), by simpa using h.sa, ?_, ?_⟩
  · cases q with
    | none => rw [sorted_app]; simp only [Option.toList_none, List.append_nil]; exact ⟨a1, a5, fun s hs p hp => a3 s hs p (by simp [hp])⟩
    | some s =>
      simp only [Option.toList_some]
      have es := (hq1 s rfl).1
      rw [sorted_app]
      refine ⟨?_, a5, ?_⟩
      · rw [sorted_app]; exact ⟨a1, List.pairwise_singleton _ _, fun p hp p' hp' => by simp at hp'; subst hp'; rw [es]; exact a3 p hp r (by simp)⟩
      · intro p hp p' hp'
        rcases List.mem_append.1 hp with k | k
        · exact a3 p k p' (by simp [hp'])
        · simp at k; subst k; rw [es]; exact a4 p' hp'
  · intro s hs
    rcases List.mem_append.1 hs with k | k
    · exact h.ok s k
    · cases q with
      | none => simp at k
      | some s' => simp at k; subst k; exact (hq1 _ rfl).2
  · intro s hs
    rcases List.mem_append.1 hs with k | k
    · obtain ⟨p, hp, e⟩ := h.sub s k; exact ⟨p, by simp [hp], e⟩
    · cases q with
      | none => simp at k
      | some s' => simp at k; subst k; exact ⟨r, by simp, (hq1 _ rfl).1.symm⟩
  · intro a t' ht' x
    rw [has_append, has_append, has_one]
    by_cases e : r.1 = a
    · subst e
      have := uniq t' ht'
      subst this
      constructor
      · rintro (k | k)
        · exact absurd k (hnR x)
        · cases q with
          | none => exact absurd k (has_nil _ _)
          | some s =>
            rw [Option.toList_some, has_one] at k
            obtain ⟨k1, k2⟩ := (hq x).1 ⟨s, rfl, k.2⟩
            exact ⟨Or.inr ⟨rfl, k1⟩, k2⟩
      · rintro ⟨k | k, hx⟩
        · exact absurd k (hnA x)
        · obtain ⟨s, rfl, hs⟩ := (hq x).2 ⟨k.2, hx⟩
          right
          rw [Option.toList_some, has_one]
          exact ⟨(hq1 s rfl).1, hs⟩
    · have hnq : ¬ has q.toList a x := by
        cases q with
        | none => exact has_nil _ _
        | some s =>
          rw [Option.toList_some, has_one]
          rintro ⟨k, _⟩
          exact e ((hq1 s rfl).1.symm.trans k)
      constructor
      · rintro (k | k)
        · obtain ⟨k1, k2⟩ := (h.same a t' ht' x).1 k; exact ⟨Or.inl k1, k2⟩
        · exact absurd k hnq
      · rintro ⟨k | k, hx⟩
        · exact Or.inl ((h.same a t' ht' x).2 ⟨k, hx⟩)
        · exact absurd k.1 e
end Go.Proofs.Qxb6620807a
