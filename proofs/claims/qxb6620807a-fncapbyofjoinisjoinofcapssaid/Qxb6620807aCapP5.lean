import Derived.Test.Qxb6620807aCapP4
namespace Go.Proofs.Qxb6620807a
open Go.RowKit
set_option linter.unusedVariables false

theorem topR_in {u : Int} {X : List Int} (h : RunOK u X) : 0 ≤ topR u X ∧ topR u X ≤ 18446744073709551615 := by
  have h0 := h.up0
  have h1 := h.upM
  unfold topR lastV
  split
  · exact ⟨h0, h1⟩
  · have hm : ix X (X.length - 1) ∈ X := getD_mem (by omega)
    have := h.lo _ hm
    have := h.hi _ hm
    omega
theorem last_r {w : World} {u : Int} {a : Option Addr} {c : Nat} {X : List Int} (s : ByteArray) (h : RunAt w u a c X) (l : Int) (hl : l = topR u X) :
    Calls Try.prog 35 #[.agg #[.string s, .int .u64 u, .slice a X.length c]] w (fun e w' => Last1 l w w' e) := by
  subst hl
  exact last_any s u a X.length c (ix X) w h.len h.row
theorem capped_r {w : World} {u : Int} {a : Option Addr} {c : Nat} {X : List Int} (s : ByteArray) (h : RunAt w u a c X) {m : Int} (h0 : 0 ≤ m) (h1 : m < 18446744073709551615) :
    Calls Try.prog 36 #[.agg #[.string s, .int .u64 u, .slice a X.length c], .int .u64 m] w (fun e w' => Capped s u a X.length (ix X) m w w' e) :=
  capped_f s u a X.length c (ix X) m w h.len h.cap h.cap2 h0 h1 h.ok.up0 (asc_iff.1 h.ok.asc) h.row

theorem rcells_take : ∀ (i : Nat) (rs : List Raw), rcells (rs.take i) = (rcells rs).take (i * 3)
  | 0, rs => by simp [rcells]
  | i + 1, [] => by simp [rcells]
  | i + 1, r :: rs => by
    rw [List.take_succ_cons]
    rw [show rcells (r :: rs.take i) = rcell r ++ rcells (rs.take i) from by simp [rcells], show rcells (r :: rs) = rcell r ++ rcells rs from by simp [rcells], rcells_take i rs]
    have hl : (rcell r).length = 3 := rfl
    rw [List.take_append, hl, List.take_of_length_le (l := rcell r) (by rw [hl]; omega), show (i + 1) * 3 - 3 = i * 3 from by omega]
/-- The cells of a context's first i runs. -/
theorem head_at {w : World} {b o : Nat} {rs : List Raw} (h : RunsAt w (some ⟨b, o, none⟩) rs) (hne : 0 < rs.length) (i : Nat) :
    ∀ k u, (rcells (rs.take i))[k]? = some u → w.cell? (Addr.add ⟨b, o, none⟩ k) = some u := by
  obtain ⟨b', off, h1, h2⟩ := h
  have e := h1 hne
  simp only [Option.some.injEq, Addr.mk.injEq] at e
  obtain ⟨rfl, rfl, _⟩ := e
  intro k u hk
  rw [rcells_take, List.getElem?_take] at hk
  split at hk
  · have := runsAt_cells h2 _ _ hk
    rw [show Addr.add ⟨b, o, none⟩ k = ⟨b, o + k, none⟩ from by simp only [Addr.add]; split <;> simp_all]
    exact this
  · cases hk
theorem head_len {rs : List Raw} {i : Nat} (h : i ≤ rs.length) : (rcells (rs.take i)).length = i * 3 := by
  rw [rcells_length, List.length_take]; omega

theorem top_ex (m : List Rn) (a : List UInt8) : ∃ t, Top m a t := by
  by_cases h : ∃ r ∈ m, r.1 = a
  · obtain ⟨r, hr, e⟩ := h; exact ⟨_, Or.inl ⟨r, hr, e, rfl⟩⟩
  · exact ⟨0, Or.inr ⟨fun r hr e => h ⟨r, hr, e⟩, rfl⟩⟩
/-- A run kept whole. -/
theorem whole_in {r : Rw} (hr : RunOK r.u r.X) {t : Int} (hle : topR r.u r.X ≤ t) (x : Int) : inR r.u r.X x ↔ inR r.u r.X x ∧ x ≤ t :=
  ⟨fun hx => ⟨hx, Int.le_trans (le_topR hr hx) hle⟩, fun h => h.1⟩
theorem cut_ne {u t : Int} {X : List Int} {p : Nat} (hl : (X.take p).length = p) (h : 0 < (if u ≤ t then u else t) ∨ 0 < p) : (if u ≤ t then u else t) = 0 → X.take p ≠ [] := by
  intro hz hX
  rcases h with k | k
  · omega
  · rw [hX] at hl; simp at hl; omega
theorem cut_none {u t : Int} {X : List Int} {p : Nat} (hl : (X.take p).length = p) (h : ¬ (0 < (if u ≤ t then u else t) ∨ 0 < p)) (hx : ∀ x, inR (if u ≤ t then u else t) (X.take p) x ↔ inR u X x ∧ x ≤ t) (x : Int) : ¬ (inR u X x ∧ x ≤ t) := by
  rw [← hx x]
  rintro (k | k)
  · exact h (Or.inl (by omega))
  · have : p = 0 := by have := h; omega
    subst this
    simp at k
end Go.Proofs.Qxb6620807a
