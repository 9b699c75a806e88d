import Derived.Test.Qxb6618426aCovers
namespace Go.Proofs.Qxb6618426a
open Go.RowKit

/-! ### sorted lists -/
def Mono (n : Nat) (f : Nat → Int) : Prop := ∀ i j, i ≤ j → j < n → f i ≤ f j

theorem mono_of_sorted {n : Nat} {f : Nat → Int} (h : sortedB n f = true) : Mono n f := by
  have h1 : ∀ i, i + 1 < n → f i ≤ f (i + 1) := by
    intro i hi
    have h2 : anyTo (fun i => decide (f (i + 1) < f i)) (n - 1) = false := by simpa [sortedB] using h
    have h3 := mt (anyTo_iff (fun i => decide (f (i + 1) < f i)) (n - 1)).2 (by rw [h2]; simp)
    by_cases hc : f i ≤ f (i + 1)
    · exact hc
    · exact absurd ⟨i, by omega, by simp; omega⟩ h3
  intro i j hij hj
  induction j with
  | zero => have : i = 0 := by omega
            subst this; exact Int.le_refl _
  | succ j ih =>
    by_cases e : i = j + 1
    · subst e; exact Int.le_refl _
    · have := ih (by omega) (by omega)
      have := h1 j hj
      omega

/-- Where the half-way search ends: all before are smaller, all from there on are not. -/
theorem bis_spec {n : Nat} {f : Nat → Int} {x : Int} (hm : Mono n f) : ∀ (k l h : Nat), l ≤ h → h ≤ n → h - l ≤ k → (∀ i, i < l → f i < x) → (∀ i, h ≤ i → i < n → x ≤ f i) →
    l ≤ bis f x k l h ∧ bis f x k l h ≤ h ∧ (∀ i, i < bis f x k l h → f i < x) ∧ (∀ i, bis f x k l h ≤ i → i < n → x ≤ f i) := by
  intro k
  induction k with
  | zero =>
    intro l h hlh hh hk h1 h2
    have : h = l := by omega
    subst this
    exact ⟨Nat.le_refl _, Nat.le_refl _, h1, h2⟩
  | succ k ih =>
    intro l h hlh hh hk h1 h2
    rw [bis]
    by_cases hlt : l < h
    · rw [if_pos hlt]
      by_cases hc : f ((l + h) / 2) < x
      · rw [if_pos hc]
        have := ih ((l + h) / 2 + 1) h (by omega) hh (by omega) (fun i hi => by
          have := hm i ((l + h) / 2) (by omega) (by omega); omega) h2
        exact ⟨by omega, this.2.1, this.2.2⟩
      · rw [if_neg hc]
        have := ih l ((l + h) / 2) (by omega) (by omega) (by omega) h1 (fun i hi hin => by
          have := hm ((l + h) / 2) i hi hin; omega)
        exact ⟨this.1, by omega, this.2.2⟩
    · rw [if_neg hlt]
      exact ⟨Nat.le_refl _, hlh, h1, fun i hi hin => h2 i (by omega) hin⟩

theorem bsFound_iff {n : Nat} {f : Nat → Int} {x : Int} (hm : Mono n f) : bsFound n f x = true ↔ ∃ j, j < n ∧ f j = x := by
  have h := bis_spec (x := x) hm n 0 n (Nat.zero_le _) (Nat.le_refl _) (by omega) (fun i hi => by omega) (fun i hi hin => by omega)
  unfold bsFound
  simp only [Bool.and_eq_true, decide_eq_true_eq, beq_iff_eq]
  constructor
  · rintro ⟨h1, h2⟩; exact ⟨_, h1, h2⟩
  · rintro ⟨j, hj, e⟩
    have h3 : bis f x n 0 n ≤ j := by
      by_cases hc : bis f x n 0 n ≤ j
      · exact hc
      · have := h.2.2.1 j (by omega); omega
    have h4 := h.2.2.2 _ (Nat.le_refl _) (by omega)
    have h5 := hm _ j h3 hj
    exact ⟨by omega, by omega⟩

def Share (n : Nat) (f : Nat → Int) (m : Nat) (g : Nat → Int) : Prop := ∃ i j, i < n ∧ j < m ∧ f i = g j

theorem shOne_iff {n : Nat} {f : Nat → Int} {m : Nat} {g : Nat → Int} (hf : Mono n f) (hg : Mono m g) : shOne n f m g = true ↔ Share n f m g := by
  unfold shOne Share
  by_cases h : m < n
  · rw [if_pos h, anyTo_iff]
    constructor
    · rintro ⟨j, hj, h1⟩
      obtain ⟨i, hi, e⟩ := (bsFound_iff hf).1 h1
      exact ⟨i, j, hi, hj, e⟩
    · rintro ⟨i, j, hi, hj, e⟩
      exact ⟨j, hj, (bsFound_iff hf).2 ⟨i, hi, e⟩⟩
  · rw [if_neg h, anyTo_iff]
    constructor
    · rintro ⟨i, hi, h1⟩
      obtain ⟨j, hj, e⟩ := (bsFound_iff hg).1 h1
      exact ⟨i, j, hi, hj, e.symm⟩
    · rintro ⟨i, j, hi, hj, e⟩
      exact ⟨i, hi, (bsFound_iff hg).2 ⟨j, hj, e.symm⟩⟩

theorem merge_iff {n : Nat} {f : Nat → Int} {m : Nat} {g : Nat → Int} (hf : Mono n f) (hg : Mono m g) : ∀ (k x y : Nat), n - x + (m - y) ≤ k →
    (merge n f m g k x y = true ↔ ∃ i j, x ≤ i ∧ y ≤ j ∧ i < n ∧ j < m ∧ f i = g j) := by
  intro k
  induction k with
  | zero =>
    intro x y hk
    simp only [merge]
    constructor
    · intro h; cases h
    · rintro ⟨i, j, h1, h2, h3, h4, _⟩; omega
  | succ k ih =>
    intro x y hk
    rw [merge]
    by_cases hc : x < n ∧ y < m
    · rw [if_pos hc]
      by_cases he : f x = g y
      · rw [if_pos he]
        constructor
        · intro _; exact ⟨x, y, Nat.le_refl _, Nat.le_refl _, hc.1, hc.2, he⟩
        · intro _; rfl
      · rw [if_neg he]
        by_cases hl : f x < g y
        · rw [if_pos hl, ih (x + 1) y (by omega)]
          constructor
          · rintro ⟨i, j, h1, h2, h3⟩; exact ⟨i, j, by omega, h2, h3⟩
          · rintro ⟨i, j, h1, h2, h3, h4, e⟩
            refine ⟨i, j, ?_, h2, h3, h4, e⟩
            by_cases hx : i = x
            · exfalso; subst hx
              have := hg y j h2 h4; omega
            · omega
        · rw [if_neg hl, ih x (y + 1) (by omega)]
          constructor
          · rintro ⟨i, j, h1, h2, h3⟩; exact ⟨i, j, h1, by omega, h3⟩
          · rintro ⟨i, j, h1, h2, h3, h4, e⟩
            refine ⟨i, j, h1, ?_, h3, h4, e⟩
            by_cases hx : j = y
            · exfalso; subst hx
              have := hf x i h1 h3; omega
            · omega
    · rw [if_neg hc]
      constructor
      · intro h; cases h
      · rintro ⟨i, j, h1, h2, h3, h4, _⟩; exact absurd ⟨by omega, by omega⟩ hc

theorem shareB_iff {ln : Nat → Nat} {lf : Nat → Nat → Int} {R : Nat} {rf : Nat → Int} {s : Nat} (hf : Mono (ln s) (lf s)) (hg : Mono R rf) : shareB ln lf R rf s = true ↔ Share (ln s) (lf s) R rf := by
  unfold shareB
  rw [merge_iff hf hg _ _ _ (by omega)]
  constructor
  · rintro ⟨i, j, _, _, h3, h4, e⟩; exact ⟨i, j, h3, h4, e⟩
  · rintro ⟨i, j, h3, h4, e⟩; exact ⟨i, j, Nat.zero_le _, Nat.zero_le _, h3, h4, e⟩

theorem share_comm {n : Nat} {f : Nat → Int} {m : Nat} {g : Nat → Int} : Share n f m g ↔ Share m g n f :=
  ⟨fun ⟨i, j, a, b, e⟩ => ⟨j, i, b, a, e.symm⟩, fun ⟨i, j, a, b, e⟩ => ⟨j, i, b, a, e.symm⟩⟩

theorem plainB_eq {ln : Nat → Nat} {lf : Nat → Nat → Int} {R : Nat} {rf : Nat → Int} {s : Nat} (hf : Mono (ln s) (lf s)) (hg : Mono R rf) : plainB ln lf R rf s = shareB ln lf R rf s := by
  rw [Bool.eq_iff_iff, shareB_iff hf hg]
  unfold plainB
  split
  · rw [shOne_iff hg hf]; exact share_comm
  · rw [shOne_iff hf hg]

/-! ### paths -/
def Mtch : Pth → Pth → Prop
  | [], [] => True
  | a :: r, b :: q => (a = star ∨ a = b) ∧ Mtch r q
  | _, _ => False

theorem Paths.pref {D : List Pth} (h : Paths D) (p : Pth) : ∀ (n : Nat) (r : Pth), r.length = n → p ++ r ∈ D → p ∈ D := by
  intro n
  induction n with
  | zero => intro r hr hm; have : r = [] := List.length_eq_zero_iff.1 hr
            subst this; simpa using hm
  | succ n ih =>
    intro r hr hm
    have hne : r ≠ [] := by intro e; subst e; simp at hr
    have e : r = r.dropLast ++ [r.getLast hne] := (List.dropLast_concat_getLast hne).symm
    rw [e, ← List.append_assoc] at hm
    exact ih r.dropLast (by simp; omega) (h.pc _ _ hm)

theorem covB_iff {D : List Pth} (hp : Paths D) {E : Nat → Int} {sh : Nat → Bool} : ∀ (rest : Pth) (p : Pth),
    covB D E sh rest p = true ↔ ∃ r, Mtch r rest ∧ p ++ r ∈ D ∧ sh (E (ix D (p ++ r))).toNat = true := by
  intro rest
  induction rest with
  | nil =>
    intro p
    simp only [covB, Bool.and_eq_true, decide_eq_true_eq]
    constructor
    · rintro ⟨h1, h2⟩; exact ⟨[], trivial, by simpa using ix_lt.1 h1, by simpa using h2⟩
    · rintro ⟨r, hm, h1, h2⟩
      cases r with
      | nil => rw [List.append_nil] at h1 h2; exact ⟨ix_lt.2 h1, h2⟩
      | cons a r => exact hm.elim
  | cons s rs ih =>
    intro p
    simp only [covB, Bool.and_eq_true, decide_eq_true_eq, Bool.or_eq_true, Bool.not_eq_true', decide_eq_false_iff_not, ih]
    constructor
    · rintro ⟨h1, (⟨h2, r, hm, h3, h4⟩ | ⟨r, hm, h3, h4⟩)⟩
      · exact ⟨s :: r, ⟨Or.inr rfl, hm⟩, by simpa using h3, by simpa using h4⟩
      · exact ⟨star :: r, ⟨Or.inl rfl, hm⟩, by simpa using h3, by simpa using h4⟩
    · rintro ⟨r, hm, h3, h4⟩
      refine ⟨ix_lt.2 (hp.pref p _ r rfl h3), ?_⟩
      cases r with
      | nil => exact hm.elim
      | cons a r =>
        obtain ⟨ha, hm⟩ := hm
        have h3' : p ++ [a] ++ r ∈ D := by simpa using h3
        have h4' : sh (E (ix D (p ++ [a] ++ r))).toNat = true := by simpa using h4
        by_cases e : a = star
        · subst e; exact Or.inr ⟨r, hm, h3', h4'⟩
        · rcases ha with ha | ha
          · exact absurd ha e
          · subst ha; exact Or.inl ⟨e, r, hm, h3', h4'⟩

theorem lastSet_eq {pn : Nat → Nat} {gs : Nat → Int} {ps : Nat → Nat → ByteArray} {x i : Nat} (hi : i < x) (h : ∀ j, i < j → j < x → pre ps j (pn j) ≠ pre ps i (pn i)) :
    lastSet pn gs ps x (pre ps i (pn i)) = gs i := by
  induction x with
  | zero => omega
  | succ x ih =>
    rw [lastSet]
    by_cases e : i = x
    · subst e; rw [if_pos rfl]
    · rw [if_neg (h x (by omega) (by omega))]
      exact ih (by omega) (fun j h1 h2 => h j h1 (by omega))

theorem lastSet_or {pn : Nat → Nat} {gs : Nat → Int} {ps : Nat → Nat → ByteArray} {x : Nat} {p : Pth} :
    lastSet pn gs ps x p = 0 ∨ ∃ i, i < x ∧ pre ps i (pn i) = p ∧ lastSet pn gs ps x p = gs i ∧ ∀ j, i < j → j < x → pre ps j (pn j) ≠ p := by
  induction x with
  | zero => exact Or.inl rfl
  | succ x ih =>
    rw [lastSet]
    by_cases e : pre ps x (pn x) = p
    · rw [if_pos e]; exact Or.inr ⟨x, by omega, e, rfl, fun j h1 h2 => by omega⟩
    · rw [if_neg e]
      rcases ih with h | ⟨i, hi, h1, h2, h3⟩
      · exact Or.inl h
      · refine Or.inr ⟨i, by omega, h1, h2, fun j hj1 hj2 => ?_⟩
        by_cases hx : j = x
        · subst hx; exact e
        · exact h3 j hj1 (by omega)

theorem toList_beq (a b : ByteArray) : (a.toList == b.toList) = true ↔ a = b := by
  rw [beq_iff_eq, ByteArray.toList_eq, ByteArray.toList_eq]
  constructor
  · intro h; cases a; cases b; simp at h; simp [h]
  · intro h; rw [h]

theorem anyTo_shift (p : Nat → Bool) (n : Nat) : anyTo p (n + 1) = (p 0 || anyTo (fun j => p (j + 1)) n) := by
  induction n with
  | zero => simp [anyTo]
  | succ n ih => rw [anyTo, ih, anyTo, Bool.or_assoc]

theorem mtch_iff (n m : Nat) (p q : Nat → ByteArray) : matchB n p m q = true ↔ Mtch (segs n p) (segs m q) := by
  induction n generalizing m p q with
  | zero =>
    cases m with
    | zero => simp [matchB, segs, anyTo, Mtch]
    | succ m => rw [segs_succ]; simp [matchB, segs, Mtch]
  | succ n ih =>
    cases m with
    | zero => rw [segs_succ]; simp [matchB, segs, Mtch]
    | succ m =>
      rw [segs_succ, segs_succ, Mtch, ← ih]
      unfold matchB
      rw [anyTo_shift]
      simp only [Bool.and_eq_true, decide_eq_true_eq, Bool.not_eq_true', Bool.or_eq_false_iff, Nat.add_right_cancel_iff, Bool.not_eq_false', segM, Bool.or_eq_true, star_iff, toList_beq]
      constructor
      · rintro ⟨h1, h2, h3⟩; exact ⟨h2, h1, h3⟩
      · rintro ⟨h2, h1, h3⟩; exact ⟨h1, h2, h3⟩

theorem same_iff (n m : Nat) (p q : Nat → ByteArray) : sameB n p m q = true ↔ segs n p = segs m q := by
  induction n generalizing m p q with
  | zero =>
    cases m with
    | zero => simp [sameB, segs, anyTo]
    | succ m => rw [segs_succ]; simp [sameB, segs]
  | succ n ih =>
    cases m with
    | zero => rw [segs_succ]; simp [sameB, segs]
    | succ m =>
      rw [segs_succ, segs_succ, List.cons.injEq, ← ih]
      unfold sameB
      rw [anyTo_shift]
      simp only [Bool.and_eq_true, decide_eq_true_eq, Bool.not_eq_true', Bool.or_eq_false_iff, Nat.add_right_cancel_iff, Bool.not_eq_false', toList_beq]
      constructor
      · rintro ⟨h1, h2, h3⟩; exact ⟨h2, h1, h3⟩
      · rintro ⟨h2, h1, h3⟩; exact ⟨h1, h2, h3⟩

/-- THE PLAIN LAW: the tree answers as the grants do. -/
theorem covers_is_model {D : List Pth} {E : Nat → Int} {G : Nat} {pn : Nat → Nat} {gs : Nat → Int} {ps : Nat → Nat → ByteArray} {ln : Nat → Nat} {lf : Nat → Nat → Int} {R : Nat} {rf : Nat → Int} {Q : Nat} {qs : Nat → ByteArray}
    (hp : Paths D) (hm : ∀ p, p ∈ D ↔ p = [] ∨ (∃ i k, i < G ∧ k ≤ pn i ∧ p = pre ps i k) ∨ (∃ k, k ≤ 0 ∧ p = pre ps G k)) (he : ∀ k, k < D.length → E k = lastSet pn gs ps G (D.getD k []))
    {sh : Nat → Bool} (hsh : ∀ k, k < D.length → sh (E k).toNat = shareB ln lf R rf (E k).toNat) (h0 : shareB ln lf R rf 0 = false) :
    covB D E sh (segs Q qs) [] = modelB G pn gs ps ln lf R rf Q qs := by
  rw [Bool.eq_iff_iff, covB_iff hp]
  unfold modelB
  rw [anyTo_iff]
  have hE : ∀ r, r ∈ D → E (ix D r) = lastSet pn gs ps G r := by
    intro r hr
    have hl := ix_lt.2 hr
    rw [he _ hl, List.getD, List.getElem?_eq_getElem hl, Option.getD_some, ix_get hl]
  constructor
  · rintro ⟨r, hmt, hr, h1⟩
    rw [List.nil_append] at hr h1
    rw [hsh _ (ix_lt.2 hr), hE r hr] at h1
    rcases lastSet_or (pn := pn) (gs := gs) (ps := ps) (x := G) (p := r) with h | ⟨i, hi, h2, h3, h4⟩
    · rw [h] at h1; simp [h0] at h1
    · refine ⟨i, hi, ?_⟩
      rw [h3] at h1
      simp only [hitB, Bool.and_eq_true, Bool.not_eq_true']
      refine ⟨(mtch_iff _ _ _ _).2 (by show Mtch (pre ps i (pn i)) _; rw [h2]; exact hmt), h1, ?_⟩
      apply replB_no
      intro j hj1 hj2
      rw [← Bool.not_eq_true, same_iff]
      intro e
      exact h4 j hj1 hj2 (by show segs _ _ = _; rw [e]; exact h2)
  · rintro ⟨i, hi, hh⟩
    simp only [hitB, Bool.and_eq_true, Bool.not_eq_true'] at hh
    obtain ⟨h1, h2, h3⟩ := hh
    have hmem : pre ps i (pn i) ∈ D := (hm _).2 (Or.inr (Or.inl ⟨i, pn i, hi, Nat.le_refl _, rfl⟩))
    refine ⟨pre ps i (pn i), (mtch_iff _ _ _ _).1 h1, by simpa using hmem, ?_⟩
    rw [List.nil_append, hsh _ (ix_lt.2 hmem), hE _ hmem, lastSet_eq hi]
    · exact h2
    · intro j hj1 hj2 e
      rw [replB_yes hj1 hj2 ((same_iff _ _ _ _).2 e)] at h3
      cases h3
end Go.Proofs.Qxb6618426a
