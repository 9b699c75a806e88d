import Derived.Test.Qxb6619267aDoorRuns
import Derived.Laws.BytesArg
import Derived.Lib.ParseIntB
namespace Go.Proofs.Qxb6619267aDoor
open Go.RowKit
set_option linter.unusedVariables false

def byt (f : Nat → Int) (j : Nat) : UInt8 := UInt8.ofNat (f j).toNat

theorem byt_nat {f : Nat → Int} {j : Nat} (h : 48 ≤ f j ∧ f j ≤ 57) : (byt f j).toNat = (f j).toNat := by
  unfold byt
  rw [UInt8.toNat_ofNat']
  omega

theorem uintM_dval {f : Nat → Int} {n : Nat} (hd : ∀ j, j < n → 48 ≤ f j ∧ f j ≤ 57) : ∀ r k, k + r = n → dval f k ≤ 18446744073709551615 →
    Lib.parseUintM (2 ^ 64 - 1) (dval f k).toNat ((List.range' k r).map (byt f)) = if dval f n ≤ 18446744073709551615 then .ok (dval f n).toNat else .range := by
  intro r
  induction r with
  | zero =>
    intro k hk hm
    obtain rfl : k = n := by omega
    rw [if_pos hm]; rfl
  | succ r ih =>
    intro k hk hm
    have h1 := hd k (by omega)
    have h2 := dval_nonneg hd k (by omega)
    have h3 : dval f (k + 1) = dval f k * 10 + (f k - 48) := rfl
    have h4 : dval f (k + 1) ≤ dval f n := dval_mono hd (by omega) (Nat.le_refl _)
    have hb := byt_nat h1
    rw [List.range'_succ, List.map_cons, Lib.parseUintM, hb, if_pos (by omega)]
    have e : (dval f k).toNat * 10 + ((f k).toNat - 48) = (dval f (k + 1)).toNat := by omega
    by_cases hx : 18446744073709551615 < dval f (k + 1)
    · rw [if_neg (show ¬ dval f n ≤ 18446744073709551615 by omega)]
      split
      · rfl
      · rw [if_pos (by omega)]
    · rw [if_neg (by omega), if_neg (by omega), e]
      exact ih (k + 1) (by omega) (by omega)

def nums (f : Nat → Int) (n : Nat) : List Int := (List.range' 0 n).map f
theorem nums_length (f : Nat → Int) (n : Nat) : (nums f n).length = n := by simp [nums]
theorem nums_getD (f : Nat → Int) (n i : Nat) (h : i < n) : (nums f n).getD i 0 = f i := by
  simp [nums, List.getD_eq_getElem?_getD, h]

theorem strOf_list (f : Nat → Int) (n : Nat) : (strOfNums (nums f n)).data.toList = (List.range' 0 n).map (byt f) := by
  rw [strOfNums_data, nums, List.map_map]; rfl

theorem parseInt_law {f : Nat → Int} {n : Nat} (hn : 0 < n) (hd : ∀ j, j < n → 48 ≤ f j ∧ f j ≤ 57) :
    Lib.parseIntB 64 (strOfNums (nums f n)).data.toList = (if dval f n ≤ 9223372036854775807 then .ok (dval f n) else .range) ∧ Lib.intSat 64 (strOfNums (nums f n)).data.toList = 9223372036854775807 := by
  rw [strOf_list]
  have hu := uintM_dval hd n 0 (by omega) (by rw [dval]; omega)
  have h0 := dval_nonneg hd n (Nat.le_refl _)
  have hb := byt_nat (hd 0 hn)
  have hd0 := hd 0 hn
  obtain ⟨m, rfl⟩ : ∃ m, n = m + 1 := ⟨n - 1, by omega⟩
  rw [List.range'_succ, List.map_cons] at hu ⊢
  constructor
  · unfold Lib.parseIntB
    simp only []
    rw [if_neg (by omega), Lib.parseUintB, if_neg (by simp)]
    rw [show (dval f 0).toNat = 0 from rfl] at hu
    rw [hu]
    by_cases h1 : dval f (m + 1) ≤ 18446744073709551615
    · rw [if_pos h1]
      simp only []
      by_cases h2 : dval f (m + 1) ≤ 9223372036854775807
      · rw [if_neg (by omega), if_neg (by omega), if_neg (by omega), if_pos h2]
        congr 1; omega
      · rw [if_pos (by omega), if_neg h2]
    · rw [if_neg h1, if_neg (by omega)]
  · unfold Lib.intSat
    rw [if_neg]
    · rfl
    · simp only [List.head?_cons, Option.map_some, Option.some.injEq]
      omega
end Go.Proofs.Qxb6619267aDoor
