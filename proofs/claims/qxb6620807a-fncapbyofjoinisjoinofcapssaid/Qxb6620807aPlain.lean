import Derived.Test.Qxb6620807aRows
import Derived.Lib.Bytealg
namespace Go.Proofs.Qxb6620807a
set_option linter.unusedVariables false

/-! The order of actors. -/
def slt (a b : List UInt8) : Prop := Op.bytesLess a b = true

theorem bytesLess_dec : ∀ (x y : List UInt8), Op.bytesLess x y = decide (x < y)
  | [], [] => by simp [Op.bytesLess]
  | _ :: _, [] => by simp [Op.bytesLess]
  | [], _ :: _ => by simp [Op.bytesLess]
  | a :: x, b :: y => by
    rw [Op.bytesLess, bytesLess_dec x y]
    simp only [List.cons_lt_cons_iff]
    by_cases h1 : a < b <;> by_cases h2 : a = b <;> by_cases h3 : x < y <;> simp [h1, h2, h3]
theorem slt_iff {a b : List UInt8} : slt a b ↔ a < b := by unfold slt; rw [bytesLess_dec]; simp
theorem slt_irrefl (a : List UInt8) : ¬ slt a a := by rw [slt_iff]; exact List.lt_irrefl _
theorem slt_trans {a b c : List UInt8} (h : slt a b) (k : slt b c) : slt a c := by rw [slt_iff] at *; exact List.lt_trans h k
theorem slt_tri (a b : List UInt8) : slt a b ∨ a = b ∨ slt b a := by
  simp only [slt_iff]
  by_cases h : a < b
  · exact Or.inl h
  · by_cases k : b < a
    · exact Or.inr (Or.inr k)
    · exact Or.inr (Or.inl (List.le_antisymm k h))
theorem slt_ne {a b : List UInt8} (h : slt a b) : a ≠ b := fun e => slt_irrefl b (e ▸ h)
theorem slt_asymm {a b : List UInt8} (h : slt a b) : ¬ slt b a := fun k => slt_irrefl _ (slt_trans h k)
theorem not_slt {a b : List UInt8} (h : Op.bytesLess a b = false) : a = b ∨ slt b a := by
  rcases slt_tri a b with k | k | k
  · unfold slt at k; rw [h] at k; cases k
  · exact Or.inl k
  · exact Or.inr k

theorem compare_lt : ∀ (a b : List UInt8), Lib.compareBytes a b < 0 ↔ slt a b
  | [], [] => by simp [Lib.compareBytes, slt, Op.bytesLess]
  | [], _ :: _ => by simp [Lib.compareBytes, slt, Op.bytesLess]
  | _ :: _, [] => by simp [Lib.compareBytes, slt, Op.bytesLess]
  | a :: x, b :: y => by
    have ih := compare_lt x y
    rw [slt_iff] at ih ⊢
    rw [Lib.compareBytes, List.cons_lt_cons_iff]
    by_cases h1 : a < b
    · simp [h1]
    · rw [if_neg h1]
      by_cases h2 : b < a
      · rw [if_pos h2]
        have : a ≠ b := by rintro rfl; exact absurd h2 h1
        simp [h1, this]
      · rw [if_neg h2]
        have : a = b := by
          have e1 := UInt8.not_lt.1 h1
          have e2 := UInt8.not_lt.1 h2
          exact UInt8.le_antisymm e2 e1
        simp [this, ih]
theorem compare_gt : ∀ (a b : List UInt8), 0 < Lib.compareBytes a b ↔ slt b a
  | [], [] => by simp [Lib.compareBytes, slt, Op.bytesLess]
  | [], _ :: _ => by simp [Lib.compareBytes, slt, Op.bytesLess]
  | _ :: _, [] => by simp [Lib.compareBytes, slt, Op.bytesLess]
  | a :: x, b :: y => by
    have ih := compare_gt x y
    rw [slt_iff] at ih ⊢
    rw [Lib.compareBytes, List.cons_lt_cons_iff]
    by_cases h1 : a < b
    · have : b ≠ a := by rintro rfl; exact UInt8.lt_irrefl _ h1
      have h2 : ¬ b < a := fun h => UInt8.lt_irrefl _ (UInt8.lt_trans h1 h)
      simp [h1, this, h2]
    · rw [if_neg h1]
      by_cases h2 : b < a
      · rw [if_pos h2]; simp [h2]
      · rw [if_neg h2]
        have : a = b := by
          have e1 := UInt8.not_lt.1 h1
          have e2 := UInt8.not_lt.1 h2
          exact UInt8.le_antisymm e2 e1
        simp [this, ih]

/-! A run. -/
abbrev Rn := List UInt8 × Int × List Int
def inR (u : Int) (ab : List Int) (x : Int) : Prop := (1 ≤ x ∧ x ≤ u) ∨ x ∈ ab
def Asc (ab : List Int) : Prop := ab.Pairwise (· < ·)
structure RunOK (u : Int) (ab : List Int) : Prop where
  up0 : 0 ≤ u
  upM : u ≤ 18446744073709551615
  asc : Asc ab
  lo : ∀ x ∈ ab, u + 2 ≤ x
  hi : ∀ x ∈ ab, x ≤ 18446744073709551615

theorem asc_ext : ∀ {a b : List Int}, Asc a → Asc b → (∀ x, x ∈ a ↔ x ∈ b) → a = b
  | [], [], _, _, _ => rfl
  | [], y :: b, _, _, h => by have := (h y).2 (by simp); simp at this
  | x :: a, [], _, _, h => by have := (h x).1 (by simp); simp at this
  | x :: a, y :: b, ha, hb, h => by
    obtain ⟨h1, h2⟩ := List.pairwise_cons.1 ha
    obtain ⟨h3, h4⟩ := List.pairwise_cons.1 hb
    have e : x = y := by
      have p : x ∈ y :: b := (h x).1 (by simp)
      have q : y ∈ x :: a := (h y).2 (by simp)
      rcases List.mem_cons.1 p with e | e
      · exact e
      · rcases List.mem_cons.1 q with f | f
        · exact f.symm
        · have := h3 x e; have := h1 y f; omega
    subst e
    have : a = b := asc_ext h2 h4 fun z => by
      have hz := h z
      simp only [List.mem_cons] at hz
      constructor
      · intro m
        rcases hz.1 (Or.inr m) with e | e
        · have := h1 z m; omega
        · exact e
      · intro m
        rcases hz.2 (Or.inr m) with e | e
        · have := h3 z m; omega
        · exact e
    rw [this]

theorem run_ext {u v : Int} {a b : List Int} (ha : RunOK u a) (hb : RunOK v b) (h : ∀ x, inR u a x ↔ inR v b x) : u = v ∧ a = b := by
  have key : ∀ {u v : Int} {a b : List Int}, RunOK u a → RunOK v b → (∀ x, inR u a x ↔ inR v b x) → v ≤ u := by
    intro u v a b ha hb h
    have := ha.up0
    apply Int.not_lt.1
    intro hlt
    rcases (h (u + 1)).2 (Or.inl ⟨by omega, by omega⟩) with k | k
    · omega
    · have := ha.lo _ k; omega
  have e : u = v := by
    have := key ha hb h
    have := key hb ha fun x => (h x).symm
    omega
  subst e
  refine ⟨rfl, asc_ext ha.asc hb.asc fun x => ?_⟩
  constructor
  · intro m
    rcases (h x).1 (Or.inr m) with k | k
    · have := ha.lo _ m; omega
    · exact k
  · intro m
    rcases (h x).2 (Or.inr m) with k | k
    · have := hb.lo _ m; omega
    · exact k

/-! A context: runs by ascending actor. -/
def has (l : List Rn) (a : List UInt8) (x : Int) : Prop := ∃ r ∈ l, r.1 = a ∧ inR r.2.1 r.2.2 x
def Sorted (l : List Rn) : Prop := l.Pairwise fun r s => slt r.1 s.1
def RnOK (r : Rn) : Prop := RunOK r.2.1 r.2.2 ∧ (r.2.1 = 0 → r.2.2 ≠ [])
def Valid (l : List Rn) : Prop := Sorted l ∧ ∀ r ∈ l, RnOK r

theorem RnOK.some_in {r : Rn} (h : RnOK r) : ∃ x, inR r.2.1 r.2.2 x := by
  obtain ⟨h1, h2⟩ := h
  have := h1.up0
  by_cases e : r.2.1 = 0
  · have := h2 e
    cases hl : r.2.2 with
    | nil => exact absurd hl this
    | cons y t => exact ⟨y, Or.inr (by simp)⟩
  · exact ⟨1, Or.inl ⟨by omega, by omega⟩⟩

theorem valid_tail {r : Rn} {l : List Rn} (h : Valid (r :: l)) : Valid l := ⟨(List.pairwise_cons.1 h.1).2, fun s hs => h.2 s (by simp [hs])⟩

theorem has_head {r : Rn} {l : List Rn} (h : Valid (r :: l)) (x : Int) : has (r :: l) r.1 x ↔ inR r.2.1 r.2.2 x := by
  constructor
  · rintro ⟨s, hs, e, k⟩
    rcases List.mem_cons.1 hs with rfl | m
    · exact k
    · exact absurd e.symm (slt_ne ((List.pairwise_cons.1 h.1).1 s m))
  · intro k; exact ⟨r, by simp, rfl, k⟩

theorem valid_ext : ∀ {l m : List Rn}, Valid l → Valid m → (∀ a x, has l a x ↔ has m a x) → l = m
  | [], [], _, _, _ => rfl
  | [], s :: m, _, hm, h => by
    obtain ⟨x, hx⟩ := (hm.2 s (by simp)).some_in
    obtain ⟨r, hr, _⟩ := (h s.1 x).2 ⟨s, by simp, rfl, hx⟩
    simp at hr
  | r :: l, [], hl, _, h => by
    obtain ⟨x, hx⟩ := (hl.2 r (by simp)).some_in
    obtain ⟨s, hs, _⟩ := (h r.1 x).1 ⟨r, by simp, rfl, hx⟩
    simp at hs
  | r :: l, s :: m, hl, hm, h => by
    have hl1 := (List.pairwise_cons.1 hl.1).1
    have hm1 := (List.pairwise_cons.1 hm.1).1
    have e : r.1 = s.1 := by
      obtain ⟨x, hx⟩ := (hl.2 r (by simp)).some_in
      obtain ⟨y, hy⟩ := (hm.2 s (by simp)).some_in
      obtain ⟨s', hs', es, _⟩ := (h r.1 x).1 ⟨r, by simp, rfl, hx⟩
      obtain ⟨r', hr', er, _⟩ := (h s.1 y).2 ⟨s, by simp, rfl, hy⟩
      rcases List.mem_cons.1 hs' with rfl | ms
      · exact es.symm
      · rcases List.mem_cons.1 hr' with rfl | mr
        · exact er
        · have k1 := hm1 s' ms
          have k2 := hl1 r' mr
          rw [es] at k1; rw [er] at k2
          exact absurd k2 (slt_asymm k1)
    have hrun := run_ext (hl.2 r (by simp)).1 (hm.2 s (by simp)).1 fun x => by
      rw [← has_head hl x, ← has_head hm x, ← e]; exact h r.1 x
    have ers : r = s := by
      obtain ⟨a, u, ab⟩ := r
      obtain ⟨a', u', ab'⟩ := s
      simp only at e hrun
      rw [e, hrun.1, hrun.2]
    subst ers
    have : l = m := valid_ext (valid_tail hl) (valid_tail hm) fun a x => by
      have hh := h a x
      constructor
      · rintro ⟨t, ht, e1, k⟩
        obtain ⟨t', ht', e2, k'⟩ := hh.1 ⟨t, by simp [ht], e1, k⟩
        rcases List.mem_cons.1 ht' with rfl | m'
        · have := hl1 t ht; rw [e1, e2] at this; exact absurd this (slt_irrefl _)
        · exact ⟨t', m', e2, k'⟩
      · rintro ⟨t, ht, e1, k⟩
        obtain ⟨t', ht', e2, k'⟩ := hh.2 ⟨t, by simp [ht], e1, k⟩
        rcases List.mem_cons.1 ht' with rfl | m'
        · have := hm1 t ht; rw [e1, e2] at this; exact absurd this (slt_irrefl _)
        · exact ⟨t', m', e2, k'⟩
    rw [this]
end Go.Proofs.Qxb6620807a
