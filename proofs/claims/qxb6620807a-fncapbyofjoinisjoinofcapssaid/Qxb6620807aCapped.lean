import Derived.Test.Qxb6620807aAbsorb
import Derived.WalkLawsBesides
namespace Go.Proofs.Qxb6620807a
open Go.RowKit
set_option linter.unusedVariables false

def Capped (s : ByteArray) (u : Int) (a : Option Addr) (n : Nat) (f : Nat → Int) (m : Int) (w w' : World) (e : Ending) : Prop :=
  ∃ (p : Nat) (b : Bool) (a' : Option Addr), e = .returned (.tuple #[.agg #[.string s, .int .u64 (if u ≤ m then u else m), .slice a' p p], .bool b]) ∧ p ≤ n ∧ AtSplit n f (m + 1) p ∧ (0 < p → a' = a) ∧ (b = true ↔ 0 < (if u ≤ m then u else m) ∨ 0 < p) ∧ Below w.heap.size w w'

set_option maxHeartbeats 1000000 in
theorem capped_f (s : ByteArray) (u : Int) (a : Option Addr) (n c : Nat) (f : Nat → Int) (m : Int) (w : World) (hn : n ≤ 16777216) (hnc : n ≤ c) (hc2 : c ≤ 1099511627776) (hm0 : 0 ≤ m) (hm : m < 18446744073709551615) (hu : 0 ≤ u)
    (mono : ∀ i j, i < j → j < n → f i < f j) (h : RowAt w a n (fun j => .int .u64 (f j))) :
    Calls Try.prog 36 #[.agg #[.string s, .int .u64 u, .slice a n c], .int .u64 m] w (fun e w' => Capped s u a n f m w w' e) := by
  have Bx : ∀ v : Int, Below w.heap.size w ((w.alloc (Obj.cells #[Value.string s, Value.int .u64 v, Value.slice a n c] 54)).alloc (Obj.cells #[Value.string { data := #[] }, Value.int .u64 0, Value.slice none 0 0] 54)) :=
    fun v => ((Below.refl _ _).alloc (Nat.le_refl _) _).alloc (by rw [Go.Deep.nblk_alloc]; omega) _
  by_cases hle : u ≤ m
  · go_enter Try.func36, Try.ntmps36
    go_wp2_with fail
    refine (search_any _ _ _ f _ _ hn mono (h.now (Bx u))).mono ?_
    rintro e w' ⟨p, bb, rfl, hp, hsp, hw⟩
    subst hw
    have HP : Hid (AtSplit n f (m + 1) p) := hsp
    have By : Below w.heap.size w ((w.alloc (Obj.cells #[Value.string s, Value.int .u64 u, Value.slice a p p] 54)).alloc (Obj.cells #[Value.string s, Value.int .u64 u, Value.slice a p p] 54)) :=
      ((Below.refl _ _).alloc (Nat.le_refl _) _).alloc (by rw [Go.Deep.nblk_alloc]; omega) _
    have HV : Hid ((if u ≤ m then u else m) = u) := if_pos hle
    clear hsp mono h
    by_cases hpos : 0 < u
    · go_wp2_with fail
      go_region
      all_goals go_wp2_with fail
      all_goals go_returns
      all_goals exact ⟨p, true, a, by rw [HV.out], hp, HP.out, fun _ => rfl, by rw [HV.out]; simp [hpos], By.drew⟩
    · obtain hz : u = 0 := by omega
      have HV0 : Hid ((if u ≤ m then u else m) = 0) := HV.out.trans hz
      rw [hz] at By
      have hz' : ((0 : Int) < u) = False := by simp [hz]
      go_wp2_with fail
      go_region
      all_goals go_wp2_with fail
      all_goals go_returns
      all_goals exact ⟨p, decide (0 < p), a, by rw [HV0.out], hp, HP.out, fun _ => rfl, by rw [HV0.out]; simp, By.drew⟩
  · go_enter Try.func36, Try.ntmps36
    go_wp2_with fail
    refine (search_any _ _ _ f _ _ hn mono (h.now (Bx m))).mono ?_
    rintro e w' ⟨p, bb, rfl, hp, hsp, hw⟩
    subst hw
    have HP : Hid (AtSplit n f (m + 1) p) := hsp
    have By : Below w.heap.size w ((w.alloc (Obj.cells #[Value.string s, Value.int .u64 m, Value.slice a p p] 54)).alloc (Obj.cells #[Value.string s, Value.int .u64 m, Value.slice a p p] 54)) :=
      ((Below.refl _ _).alloc (Nat.le_refl _) _).alloc (by rw [Go.Deep.nblk_alloc]; omega) _
    have HV : Hid ((if u ≤ m then u else m) = m) := if_neg (by omega)
    clear hsp mono h
    by_cases hpos : 0 < m
    · go_wp2_with fail
      go_region
      all_goals go_wp2_with fail
      all_goals go_returns
      all_goals exact ⟨p, true, a, by rw [HV.out], hp, HP.out, fun _ => rfl, by rw [HV.out]; simp [hpos], By.drew⟩
    · obtain hz : m = 0 := by omega
      have HV0 : Hid ((if u ≤ m then u else m) = 0) := HV.out.trans hz
      rw [hz] at By
      have hz' : ((0 : Int) < m) = False := by simp [hz]
      go_wp2_with fail
      go_region
      all_goals go_wp2_with fail
      all_goals go_returns
      all_goals exact ⟨p, decide (0 < p), a, by rw [HV0.out], hp, HP.out, fun _ => rfl, by rw [HV0.out]; simp, By.drew⟩
end Go.Proofs.Qxb6620807a
