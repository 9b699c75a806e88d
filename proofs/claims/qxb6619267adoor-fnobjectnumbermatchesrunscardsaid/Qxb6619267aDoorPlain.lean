import Derived.Test.Qxb6619267aDoorObj
namespace Go.Proofs.Qxb6619267aDoor
open Go.RowKit
set_option linter.unusedVariables false

theorem wh_cls (c : Int) : isWh c = (cls c == 1) := by
  unfold cls
  by_cases hd : isDg c = true
  · rw [if_pos hd]
    have : 48 ≤ c ∧ c ≤ 57 := by simpa [isDg] using hd
    simp [isWh]; omega
  · rw [if_neg hd]
    by_cases hw : isWh c = true
    · rw [if_pos hw, hw]; rfl
    · rw [if_neg hw]
      have : isWh c = false := by simpa using hw
      rw [this]; split <;> rfl
theorem dg_cls (c : Int) : isDg c = (cls c == 0) := by
  unfold cls
  by_cases hd : isDg c = true
  · rw [if_pos hd, hd]; rfl
  · rw [if_neg hd]
    have : isDg c = false := by simpa using hd
    rw [this]; split
    · rfl
    · split <;> rfl
theorem reg_cls {c : Int} (h : isDg c = false) : reg c = (cls c == 3) := by
  unfold cls reg
  rw [if_neg (by simp [h])]
  cases isWh c <;> cases isDl c <;> rfl

theorem bk_cls (f : Nat → Int) (q : Int) (hq : 0 ≤ q) (j : Nat) : bk (fun x => cls (f x) == q) j = if Cl f j = q then Tl f j else j := by
  split
  · rename_i h; unfold Tl; rw [h]
  · rename_i h
    apply bk_self
    by_cases hj : j = 0
    · exact Or.inl hj
    · right
      unfold Cl at h; rw [if_neg hj] at h
      simpa using h

theorem Cl_pos {f : Nat → Int} {j : Nat} (h : 0 ≤ Cl f j) : 0 < j := by
  by_cases hj : j = 0
  · subst hj; simp [Cl] at h
  · omega

theorem nxt_eq (f : Nat → Int) (n : Nat) : nxt f n = if Cl f n = 1 ∧ Cl f (Tl f n) = 0 then some (Tl f (Tl f n), Tl f n) else none := by
  unfold nxt
  simp only [wh_cls, dg_cls, bk_cls f 1 (by omega), bk_cls f 0 (by omega)]
  by_cases h1 : Cl f n = 1
  · have l1 := Tl_lt (f := f) (Cl_pos (f := f) (j := n) (by omega))
    rw [if_pos h1, if_neg (by omega)]
    by_cases h2 : Cl f (Tl f n) = 0
    · have l2 := Tl_lt (f := f) (Cl_pos (f := f) (j := Tl f n) (by omega))
      rw [if_pos h2, if_neg (by omega), if_pos ⟨h1, h2⟩]
    · rw [if_neg h2, if_pos rfl, if_neg (fun h => h2 h.2)]
  · rw [if_neg h1, if_pos rfl, if_neg (fun h => h1 h.1)]

theorem objB_eq (f : Nat → Int) (n : Nat) : objB f n = runB f n := by
  unfold objB runB
  simp only [st, Option.bind_some, nxt_eq f n]
  by_cases h1 : Cl f n = 1 ∧ Cl f (Tl f n) = 0
  · rw [if_pos h1, Option.bind_some]
    simp only [nxt_eq f (Tl f (Tl f n))]
    by_cases h2 : Cl f (Tl f (Tl f n)) = 1 ∧ Cl f (Tl f (Tl f (Tl f n))) = 0
    · rw [if_pos h2, Option.bind_some]
      simp only []
      generalize hc : Tl f (Tl f (Tl f n)) = c at h2 ⊢
      have hd : 0 < Tl f c → isDg (f (Tl f c - 1)) = false := by
        intro hp
        have := bk_end (fun x => cls (f x) == Cl f c) c hp
        rw [h2.2] at this
        rw [dg_cls]; rw [show Tl f c = bk (fun x => cls (f x) == Cl f c) c from rfl, h2.2]; exact this
      have he : (0 < Tl f c ∧ reg (f (Tl f c - 1)) = true) ↔ Cl f (Tl f c) = 3 := by
        constructor
        · rintro ⟨hp, hr⟩
          rw [reg_cls (hd hp)] at hr
          unfold Cl; rw [if_neg (by omega)]; simpa using hr
        · intro h
          have hp := Cl_pos (f := f) (j := Tl f c) (by omega)
          refine ⟨hp, ?_⟩
          rw [reg_cls (hd hp)]
          unfold Cl at h; rw [if_neg (by omega)] at h; simpa using h
      by_cases h3 : Cl f (Tl f c) = 3
      · rw [if_pos (he.mpr h3), if_neg (by rintro ⟨_, _, _, _, h⟩; exact h h3)]
      · rw [if_neg (fun h => h3 (he.mp h)), if_pos ⟨h2.2, h2.1, h1.2, h1.1, h3⟩]
    · rw [if_neg h2, if_neg (fun h => h2 ⟨h.2.1, h.1⟩)]; rfl
  · rw [if_neg h1, if_neg (fun h => h1 ⟨h.2.2.2.1, h.2.2.1⟩)]; rfl
end Go.Proofs.Qxb6619267aDoor
