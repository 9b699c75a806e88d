import Derived.Test.Qxb6618426aRows
import Derived.WalkKit
import Derived.WalkSpells
import Derived.BigQuiet
import Derived.Deep.QuietTactic
namespace Go.Proofs.Qxb6618426a
open Go.RowKit

/-- A row of n one-cell elements behind a slice's address. -/
def RowAt (w : World) (a : Option Addr) (n : Nat) (f : Nat → Value) : Prop :=
  ∃ b off, (0 < n → a = some ⟨b, off, none⟩) ∧ ∀ j, j < n → w.cell? ⟨b, off + j, none⟩ = some (f j)

theorem ret_bool {a b : Bool} (h : a = b) : Ending.returned (.bool a) = .returned (.bool b) := by rw [h]
theorem ret_tup {p : Value} {a b : Bool} (h : a = b) : Ending.returned (.tuple #[p, .bool a]) = .returned (.tuple #[p, .bool b]) := by rw [h]

theorem less_any (x y : Int) (w : World) : Calls Try.prog 37 #[.int .i32 x, .int .i32 y] w fun e w' => e = .returned (.bool (decide (x < y))) ∧ w' = w := by
  go_enter Try.func37, Try.ntmps37
  go_wp2
  go_ret
  exact ⟨rfl, rfl⟩

/-- The half-way search: where it ends. -/
def bis (f : Nat → Int) (x : Int) : Nat → Nat → Nat → Nat
  | 0, l, _ => l
  | k + 1, l, h => if l < h then (if f ((l + h) / 2) < x then bis f x k ((l + h) / 2 + 1) h else bis f x k l ((l + h) / 2)) else l

def bsFound (n : Nat) (f : Nat → Int) (x : Int) : Bool := decide (bis f x n 0 n < n) && (f (bis f x n 0 n) == x)

theorem bis_done (f : Nat → Int) (x : Int) (k l h : Nat) (hge : ¬ l < h) : bis f x k l h = l := by
  cases k with
  | zero => rfl
  | succ k => rw [bis, if_neg hge]

set_option maxHeartbeats 400000 in
theorem bs_any (a : Option Addr) (n cap : Nat) (f : Nat → Int) (x : Int) (w : World) (hn : n ≤ 1048576) (h : RowAt w a n (fun j => .int .i32 (f j))) :
    Calls Try.prog 34 #[.slice a n cap, .int .i32 x] w fun e w' => (∃ p : Int, e = .returned (.tuple #[.int .i64 p, .bool (bsFound n f x)])) ∧ w' = w := by
  obtain ⟨b, off, ha, hc⟩ := h
  go_enter Try.func34, Try.ntmps34
  go_wp2
  go_loop [7, 8] (fun lo hi => ∃ l h k : Nat, l ≤ h ∧ h ≤ n ∧ lo = .int .i64 l ∧ hi = .int .i64 h ∧ h - l ≤ k ∧ bis f x k l h = bis f x n 0 n)
    (fun lo hi => (intOf hi).toNat - (intOf lo).toNat)
  case atStart => exact ⟨0, n, n, Nat.zero_le _, Nat.le_refl _, rfl, rfl, by omega, rfl⟩
  case round =>
    obtain ⟨l, h, k, hlh, hh, rfl, rfl, hk, hb⟩ := hrel
    by_cases hlt : l < h
    · obtain rfl := ha (by omega)
      have hcell : w.cell? ⟨b, off + (l + h) / 2, none⟩ = some (.int .i32 (f ((l + h) / 2))) := hc _ (by omega)
      have HB : Hid (bis f x k l h = bis f x n 0 n) := hb
      clear hb
      cases k with
      | zero => omega
      | succ k' =>
        go_wp2
        · have hq : f ((l + h) / 2) < x := by assumption
          go_round
          case rel => exact ⟨(l + h) / 2 + 1, h, k', by omega, hh, by go_num, rfl, by omega, by rw [← HB.out, bis, if_pos hlt, if_pos hq]⟩
          case measure => simp only [intOf]; omega
        · have hq : ¬ f ((l + h) / 2) < x := by assumption
          go_round
          case rel => exact ⟨l, (l + h) / 2, k', by omega, by omega, rfl, by go_num, by omega, by rw [← HB.out, bis, if_pos hlt, if_neg hq]⟩
          case measure => simp only [intOf]; omega
    · have e : bis f x n 0 n = l := by rw [← hb]; exact bis_done f x k l h hlt
      have HB : Hid (bis f x n 0 n = l) := e
      clear hb e
      by_cases hl : l < n
      · obtain rfl := ha (by omega)
        have hcell : w.cell? ⟨b, off + l, none⟩ = some (.int .i32 (f l)) := hc _ (by omega)
        by_cases hq : f l = x
        · have hq' : (f l == x) = true := by simp [hq]
          clear hq
          go_wp2
          go_ret2
          exact ⟨⟨_, ret_tup (by unfold bsFound; rw [HB.out]; simp [hl, hq'])⟩, rfl⟩
        · have hq' : (f l == x) = false := by simp [hq]
          clear hq
          go_wp2
          go_ret2
          exact ⟨⟨_, ret_tup (by unfold bsFound; rw [HB.out]; simp [hq'])⟩, rfl⟩
      · go_wp2
        go_ret2
        exact ⟨⟨_, ret_tup (by unfold bsFound; rw [HB.out]; simp [hl])⟩, rfl⟩

end Go.Proofs.Qxb6618426a
