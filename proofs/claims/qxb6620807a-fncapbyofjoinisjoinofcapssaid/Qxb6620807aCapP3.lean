import Derived.Test.Qxb6620807aCapP2
namespace Go.Proofs.Qxb6620807a
open Go.RowKit
set_option linter.unusedVariables false

theorem sorted_inj {m : List Rn} (h : Sorted m) {r s : Rn} (hr : r ∈ m) (hs : s ∈ m) (e : r.1 = s.1) : r = s := by
  induction m with
  | nil => simp at hr
  | cons x m ih =>
    obtain ⟨h1, h2⟩ := sorted_cons.1 h
    rcases List.mem_cons.1 hr with rfl | hr'
    · rcases List.mem_cons.1 hs with rfl | hs'
      · rfl
      · exact absurd e (slt_ne (h1 s hs'))
    · rcases List.mem_cons.1 hs with rfl | hs'
      · exact absurd e.symm (slt_ne (h1 r hr'))
      · exact ih h2 hr' hs'
theorem top_uniq {m : List Rn} (h : Sorted m) {a : List UInt8} {t t' : Int} (k : Top m a t) (k' : Top m a t') : t' = t := by
  rcases k with ⟨r, hr, e, rfl⟩ | ⟨hn, rfl⟩
  · rcases k' with ⟨s, hs, e', rfl⟩ | ⟨hn', _⟩
    · rw [sorted_inj h hs hr (e'.trans e.symm)]
    · exact absurd e (hn' r hr)
  · rcases k' with ⟨s, hs, e', _⟩ | ⟨_, rfl⟩
    · exact absurd e' (hn s hs)
    · rfl
/-- Where the search for r's actor ends at another one: o has none of it. -/
theorem top_none {us : List Rw} (h : Sorted (us.map Rw.rn)) {a : List UInt8} {j : Nat} (h1 : ∀ k (hk : k < us.length), k < j → slt us[k].s.toList a) (h2 : ∀ hk : j < us.length, ¬ slt us[j].s.toList a ∧ us[j].s.toList ≠ a) : Top (us.map Rw.rn) a 0 := by
  refine Or.inr ⟨fun r hr e => ?_, rfl⟩
  obtain ⟨t, ht, rfl⟩ := List.mem_map.1 hr
  obtain ⟨k, hk, rfl⟩ := List.getElem_of_mem ht
  have e : us[k].s.toList = a := e
  by_cases hlt : k < j
  · have := h1 k hk hlt; rw [e] at this; exact slt_irrefl _ this
  · by_cases hj : k = j
    · subst hj; exact (h2 hk).2 e
    · have hjl : j < us.length := by omega
      unfold Sorted at h
      rw [List.pairwise_iff_getElem] at h
      have := h j k (by simpa using hjl) (by simpa using hk) (by omega)
      simp only [List.getElem_map] at this
      have : slt us[j].s.toList us[k].s.toList := this
      rw [e] at this
      exact (h2 hjl).1 this
theorem top_some {us : List Rw} {a : List UInt8} {j : Nat} (hj : j < us.length) (e : us[j].s.toList = a) : Top (us.map Rw.rn) a (topR us[j].u us[j].X) :=
  Or.inl ⟨us[j].rn, List.mem_map.2 ⟨_, List.getElem_mem _, rfl⟩, e, rfl⟩
end Go.Proofs.Qxb6620807a
