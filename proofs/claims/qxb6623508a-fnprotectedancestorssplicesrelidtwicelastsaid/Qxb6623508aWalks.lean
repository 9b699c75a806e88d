import Derived.Test.Qxb6623508aRows
import Derived.WalkKit
import Derived.WalkSpells
namespace Go.Proofs.Qxb6623508a
open Go.RowKit

theorem ret_bool {a b : Bool} (h : a = b) : Ending.returned (.bool a) = .returned (.bool b) := by rw [h]

set_option maxHeartbeats 400000 in
theorem bytes_any (x y : ByteArray) (w : World) (hx : x.size ≤ maxLen) (hy : y.size ≤ maxLen) :
    Calls Try.prog 4 #[.string x, .string y] w fun e w' => e = .returned (.bool (decide (x.size + y.size ≤ 1048576))) ∧ w' = w := by
  unfold maxLen at hx hy
  go_enter Try.func4, Try.ntmps4
  go_wp2
  all_goals go_ret
  · exact ⟨ret_bool (by simp; omega), rfl⟩
  · exact ⟨ret_bool (by simp; omega), rfl⟩
  · exact ⟨ret_bool (by simp; omega), rfl⟩
  · exact ⟨ret_bool (by simp; omega), rfl⟩

set_option maxHeartbeats 400000 in
theorem suffix_any (s f : ByteArray) (v w : World) (hv : Grown v w) (hs : s.size ≤ 3000000) (hf : f.size ≤ s.size) (h : ∀ k, (hk : k < f.size) → s[s.size - f.size + k] = f[k]) :
    Calls Try.prog 6 #[.string s, .string f] w fun e w' => e = .returned (.bool true) ∧ Grown v w' := by
  go_enter Try.func6, Try.ntmps6
  go_wp2
  go_loopw [6] (fun i wr => ∃ k : Nat, k ≤ f.size ∧ i = .int .i64 k ∧ Grown v wr)
    (fun i _ => f.size - (intOf i).toNat)
  case atStart => exact ⟨0, Nat.zero_le _, rfl, hv⟩
  case round =>
    obtain ⟨k, hk, rfl, hG⟩ := hrel
    by_cases hlt : k < f.size
    · have h1 : (0 : Int) ≤ (s.size : Int) - (f.size : Int) + (k : Int) := by omega
      have h2 : (s.size : Int) - (f.size : Int) + (k : Int) < (s.size : Int) := by omega
      have h3 : ((s.size : Int) - (f.size : Int) + (k : Int)).toNat < s.size := by omega
      have hh : s[((s.size : Int) - (f.size : Int) + (k : Int)).toNat]'h3 = f[k] := by
        have := h k hlt
        rw [← this]; congr 1; omega
      clear h
      go_wp2
      go_region
      all_goals go_wp2
      go_roundw
      case rel => exact ⟨k + 1, by omega, by go_num, hG.drew⟩
      case measure => simp [intOf]; omega
    · go_wp2
      go_ret
      exact ⟨rfl, hG⟩

def litA : ByteArray := ⟨#[83, 69, 76, 69, 67, 84, 32, 97, 46, 114, 101, 108, 105, 100, 32, 70, 82, 79, 77, 32, 112, 103, 95, 112, 97, 114, 116, 105, 116, 105, 111, 110, 95, 97, 110, 99, 101, 115, 116, 111, 114, 115, 40]⟩
def litB : ByteArray := ⟨#[41, 32, 97]⟩
def litC : ByteArray := ⟨#[32, 74, 79, 73, 78, 32, 112, 103, 95, 112, 111, 108, 105, 99, 121, 32, 113, 32, 79, 78, 32, 113, 46, 112, 111, 108, 114, 101, 108, 105, 100, 32, 61, 32, 97, 46, 114, 101, 108, 105, 100, 32, 65, 78, 68, 32, 113, 46, 112, 111, 108, 110, 97, 109, 101, 32, 61, 32, 36, 49, 32, 87, 72, 69, 82, 69, 32, 97, 46, 114, 101, 108, 105, 100, 32, 60, 62, 32]⟩

set_option maxHeartbeats 400000 in
theorem anc_any (x : ByteArray) (w : World) (hx : x.size ≤ 1048576) :
    Calls Try.prog 7 #[.string x] w fun e w' => e = .returned (.string (litA ++ x ++ litB ++ litC ++ x)) ∧ w' = w := by
  go_enter Try.func7, Try.ntmps7
  go_wp2
  go_ret
  exact ⟨rfl, rfl⟩
end Go.Proofs.Qxb6623508a
