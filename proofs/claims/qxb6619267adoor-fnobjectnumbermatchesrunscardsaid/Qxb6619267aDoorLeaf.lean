import Derived.Test.Qxb6619267aDoorRows
import Derived.WalkKit
import Derived.WalkSpells
import Derived.WalkSmall
import Derived.BigQuiet
import Derived.Deep.QuietTactic
namespace Go.Proofs.Qxb6619267aDoor
open Go.RowKit
set_option linter.unusedVariables false

theorem ret_bool {a b : Bool} (h : a = b) : Ending.returned (.bool a) = .returned (.bool b) := by rw [h]
theorem ret_int {k : IntKind} {a b : Int} (h : a = b) : Ending.returned (.int k a) = .returned (.int k b) := by rw [h]
theorem ret_pair {k : IntKind} {a b : Int} {x y : Bool} (h : a = b) (h' : x = y) : Ending.returned (.tuple #[.int k a, .bool x]) = .returned (.tuple #[.int k b, .bool y]) := by rw [h, h']

/-- A row of n one-cell elements behind a slice's address. -/
def RowAt (w : World) (a : Option Addr) (n : Nat) (f : Nat → Value) : Prop :=
  ∃ b off, (0 < n → a = some ⟨b, off, none⟩) ∧ ∀ j, j < n → w.cell? ⟨b, off + j, none⟩ = some (f j)
theorem RowAt.below {w w' : World} {a : Option Addr} {n : Nat} {f : Nat → Value} (h : RowAt w a n f) (hb : Below w.heap.size w w') : RowAt w' a n f := by
  obtain ⟨b, off, ha, hc⟩ := h
  refine ⟨b, off, ha, fun j hj => ?_⟩
  rw [← hc j hj]
  exact hb.cell (World.block_lt_of_cell? _ _ (hc j hj))

def isDg (c : Int) : Bool := decide (48 ≤ c) && decide (c ≤ 57)
def isWh (c : Int) : Bool := c == 0 || c == 9 || c == 10 || c == 12 || c == 13 || c == 32
def isDl (c : Int) : Bool := c == 40 || c == 41 || c == 60 || c == 62 || c == 91 || c == 93 || c == 123 || c == 125 || c == 47 || c == 37
def cls (c : Int) : Int := if isDg c = true then 0 else if isWh c = true then 1 else if isDl c = true then 2 else 3

theorem digit_any (c : Int) (w : World) (h0 : 0 ≤ c) (h1 : c ≤ 255) : Calls Tryd.prog 10 #[.int .u8 c] w fun e w' => e = .returned (.bool (isDg c)) ∧ w' = w := by
  go_enter Tryd.func10, Tryd.ntmps10
  go_wp2
  · go_ret
    refine ⟨ret_bool ?_, rfl⟩
    simp [isDg, *]
  · go_ret
    refine ⟨ret_bool ?_, rfl⟩
    simp [isDg]; omega

set_option maxHeartbeats 400000 in
theorem white_any (c : Int) (w : World) (h0 : 0 ≤ c) (h1 : c ≤ 255) : Calls Tryd.prog 11 #[.int .u8 c] w fun e w' => e = .returned (.bool (isWh c)) ∧ w' = w := by
  go_enter Tryd.func11, Tryd.ntmps11
  go_wp2
  all_goals go_ret
  all_goals refine ⟨ret_bool ?_, rfl⟩
  all_goals simp [isWh, *]

set_option maxHeartbeats 400000 in
theorem delim_any (c : Int) (w : World) (h0 : 0 ≤ c) (h1 : c ≤ 255) : Calls Tryd.prog 9 #[.int .u8 c] w fun e w' => e = .returned (.bool (isDl c)) ∧ w' = w := by
  go_enter Tryd.func9, Tryd.ntmps9
  go_wp2
  all_goals go_ret
  all_goals refine ⟨ret_bool ?_, rfl⟩
  all_goals simp [isDl, *]

set_option maxHeartbeats 400000 in
theorem space_any (c : Int) (w : World) (h0 : 0 ≤ c) (h1 : c ≤ 255) : Calls Tryd.prog 15 #[.int .u8 c] w fun e w' => e = .returned (.bool (isWh c)) ∧ w' = w := by
  go_enter Tryd.func15, Tryd.ntmps15
  go_wp2
  all_goals go_ret
  all_goals refine ⟨ret_bool ?_, rfl⟩
  all_goals simp [isWh, *]

set_option maxHeartbeats 400000 in
theorem delimiter_any (c : Int) (w : World) (h0 : 0 ≤ c) (h1 : c ≤ 255) : Calls Tryd.prog 18 #[.int .u8 c] w fun e w' => e = .returned (.bool (isDl c)) ∧ w' = w := by
  go_enter Tryd.func18, Tryd.ntmps18
  go_wp2
  all_goals go_ret
  all_goals refine ⟨ret_bool ?_, rfl⟩
  all_goals simp [isDl, *]

theorem regular_any (c : Int) (w : World) (h0 : 0 ≤ c) (h1 : c ≤ 255) : Calls Tryd.prog 16 #[.int .u8 c] w fun e w' => e = .returned (.bool (!isWh c && !isDl c)) ∧ w' = w := by
  by_cases h : isWh c = true
  · go_enter Tryd.func16, Tryd.ntmps16
    go_wp2_with (first
      | (go_at_call 15; refine (space_any _ _ h0 h1).mono ?_; rintro e w' ⟨rfl, rfl⟩)
      | (go_at_call 18; refine (delimiter_any _ _ h0 h1).mono ?_; rintro e w' ⟨rfl, rfl⟩))
    go_ret
    exact ⟨ret_bool (by simp [h]), rfl⟩
  · have h' : isWh c = false := by simpa using h
    clear h
    go_enter Tryd.func16, Tryd.ntmps16
    go_wp2_with (first
      | (go_at_call 15; refine (space_any _ _ h0 h1).mono ?_; rintro e w' ⟨rfl, rfl⟩)
      | (go_at_call 18; refine (delimiter_any _ _ h0 h1).mono ?_; rintro e w' ⟨rfl, rfl⟩))
    go_ret
    exact ⟨ret_bool (by simp [h']), rfl⟩

theorem class_any (c : Int) (w : World) (h0 : 0 ≤ c) (h1 : c ≤ 255) : Calls Tryd.prog 12 #[.int .u8 c] w fun e w' => e = .returned (.int .i64 (cls c)) ∧ w' = w := by
  cases hd : isDg c with
  | true =>
    go_enter Tryd.func12, Tryd.ntmps12
    go_wp2_with (go_at_call 10; refine (digit_any _ _ h0 h1).mono ?_; rintro e w' ⟨rfl, rfl⟩)
    go_ret
    exact ⟨ret_int (by simp [cls, hd]), rfl⟩
  | false =>
  cases hw : isWh c with
  | true =>
    go_enter Tryd.func12, Tryd.ntmps12
    go_wp2_with (first
      | (go_at_call 10; refine (digit_any _ _ h0 h1).mono ?_; rintro e w' ⟨rfl, rfl⟩)
      | (go_at_call 11; refine (white_any _ _ h0 h1).mono ?_; rintro e w' ⟨rfl, rfl⟩))
    go_ret
    exact ⟨ret_int (by simp [cls, hd, hw]), rfl⟩
  | false =>
  cases hl : isDl c with
  | true =>
    go_enter Tryd.func12, Tryd.ntmps12
    go_wp2_with (first
      | (go_at_call 10; refine (digit_any _ _ h0 h1).mono ?_; rintro e w' ⟨rfl, rfl⟩)
      | (go_at_call 11; refine (white_any _ _ h0 h1).mono ?_; rintro e w' ⟨rfl, rfl⟩)
      | (go_at_call 9; refine (delim_any _ _ h0 h1).mono ?_; rintro e w' ⟨rfl, rfl⟩))
    go_ret
    exact ⟨ret_int (by simp [cls, hd, hw, hl]), rfl⟩
  | false =>
    go_enter Tryd.func12, Tryd.ntmps12
    go_wp2_with (first
      | (go_at_call 10; refine (digit_any _ _ h0 h1).mono ?_; rintro e w' ⟨rfl, rfl⟩)
      | (go_at_call 11; refine (white_any _ _ h0 h1).mono ?_; rintro e w' ⟨rfl, rfl⟩)
      | (go_at_call 9; refine (delim_any _ _ h0 h1).mono ?_; rintro e w' ⟨rfl, rfl⟩))
    go_ret
    exact ⟨ret_int (by simp [cls, hd, hw, hl]), rfl⟩

theorem bytes_any (a : Option Addr) (n c : Nat) (at_ : Int) (w : World) : Calls Tryd.prog 5 #[.slice a n c, .int .i64 at_] w fun e w' => e = .returned (.bool (decide (n ≤ 1048576))) ∧ w' = w := by
  by_cases h : n ≤ 1048576
  · go_enter Tryd.func5, Tryd.ntmps5
    go_wp2
    go_ret
    exact ⟨ret_bool (by simp [h]), rfl⟩
  · go_enter Tryd.func5, Tryd.ntmps5
    go_wp2
    go_ret
    exact ⟨ret_bool (by simp [h]), rfl⟩

/-- The decimal value of the first k digits. -/
def dval (f : Nat → Int) : Nat → Int
  | 0 => 0
  | k + 1 => dval f k * 10 + (f k - 48)

theorem dval_nonneg {f : Nat → Int} {n : Nat} (h : ∀ j, j < n → 48 ≤ f j ∧ f j ≤ 57) : ∀ k, k ≤ n → 0 ≤ dval f k := by
  intro k
  induction k with
  | zero => intro _; exact Int.le_refl _
  | succ k ih => intro hk; have := ih (by omega); have := h k (by omega); rw [dval]; omega

theorem dval_mono {f : Nat → Int} {n : Nat} (h : ∀ j, j < n → 48 ≤ f j ∧ f j ≤ 57) {j k : Nat} (hjk : j ≤ k) (hk : k ≤ n) : dval f j ≤ dval f k := by
  induction k with
  | zero => have : j = 0 := by omega
            subst this; exact Int.le_refl _
  | succ k ih =>
    by_cases e : j = k + 1
    · subst e; exact Int.le_refl _
    · have h1 := ih (by omega) (by omega)
      have h2 := dval_nonneg h k (by omega)
      have h3 := h k (by omega)
      rw [dval]; omega

/-- What both readers say of a run of digits. -/
def numB (f : Nat → Int) (n : Nat) : Int × Bool := if dval f n ≤ 9223372036854775807 then (dval f n, true) else (9223372036854775807, false)

set_option maxHeartbeats 400000 in
theorem decimal_any (a : Option Addr) (n cap : Nat) (f : Nat → Int) (w : World) (hn : n ≤ 65536) (hd : ∀ j, j < n → 48 ≤ f j ∧ f j ≤ 57) (h : RowAt w a n (fun j => .int .u8 (f j))) :
    Calls Tryd.prog 13 #[.slice a n cap] w fun e w' => e = .returned (.tuple #[.int .i64 (numB f n).1, .bool (numB f n).2]) ∧ w' = w := by
  obtain ⟨b, off, ha, hc⟩ := h
  go_enter Tryd.func13, Tryd.ntmps13
  go_wp2
  go_loop [4, 5] (fun v i => ∃ (k : Nat) (x : Int), k ≤ n ∧ i = .int .i64 k ∧ v = .int .i64 x ∧ 0 ≤ x ∧ x ≤ 9223372036854775807 ∧ Hid (x = dval f k)) (fun _ i => n - (intOf i).toNat)
  case atStart => exact ⟨0, 0, by omega, rfl, rfl, by omega, by omega, rfl⟩
  case round =>
    obtain ⟨k, x, hk, rfl, rfl, hx0, hx1, HX⟩ := hrel
    by_cases hlt : k < n
    · obtain rfl := ha (by omega)
      have c1 := hc k hlt
      have d1 := hd k hlt
      by_cases hov : (9223372036854775807 - (f k - 48)) / 10 < x
      · have HE : Hid (numB f n = (9223372036854775807, false)) := by
          have h1 : dval f (k + 1) ≤ dval f n := dval_mono hd (by omega) (Nat.le_refl _)
          have h2 : dval f (k + 1) = x * 10 + (f k - 48) := by rw [dval, HX.out]
          unfold Hid numB
          rw [if_neg (by omega)]
        clear hc hd
        go_wp2
        go_ret2
        exact ⟨ret_pair (by rw [HE.out]) (by rw [HE.out]), rfl⟩
      · have HX' : Hid (x * 10 + (f k - 48) = dval f (k + 1)) := by unfold Hid; rw [dval, HX.out]
        clear hc hd HX
        go_wp2
        go_round
        case rel => exact ⟨k + 1, x * 10 + (f k - 48), by omega, by go_num, rfl, by omega, by omega, HX'⟩
        case measure => simp only [intOf]; omega
    · obtain rfl : n = k := by omega
      have HE : Hid (numB f n = (x, true)) := by unfold Hid numB; rw [← HX.out, if_pos hx1]
      clear hc hd
      go_wp2
      go_ret2
      exact ⟨ret_pair (by rw [HE.out]) (by rw [HE.out]), rfl⟩
end Go.Proofs.Qxb6619267aDoor
