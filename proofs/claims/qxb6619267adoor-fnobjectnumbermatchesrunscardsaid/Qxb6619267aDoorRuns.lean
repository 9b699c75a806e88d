import Derived.Test.Qxb6619267aDoorLeaf
namespace Go.Proofs.Qxb6619267aDoor
open Go.RowKit
set_option linter.unusedVariables false

/-- Where the longest stretch of p that ends at i begins. -/
def bk (p : Nat → Bool) : Nat → Nat
  | 0 => 0
  | i + 1 => if p i = true then bk p i else i + 1
theorem bk_le (p : Nat → Bool) : ∀ i, bk p i ≤ i
  | 0 => Nat.le_refl _
  | i + 1 => by rw [bk]; split
                · have := bk_le p i; omega
                · exact Nat.le_refl _
theorem bk_all (p : Nat → Bool) : ∀ i j, bk p i ≤ j → j < i → p j = true
  | 0, j, _, h => by omega
  | i + 1, j, h1, h2 => by
    rw [bk] at h1
    split at h1
    · rename_i hp
      by_cases e : j = i
      · subst e; exact hp
      · exact bk_all p i j h1 (by omega)
    · omega
theorem bk_end (p : Nat → Bool) : ∀ i, 0 < bk p i → p (bk p i - 1) = false
  | 0, h => by simp [bk] at h
  | i + 1, h => by
    rw [bk] at h ⊢
    split at h
    · rename_i hp; rw [if_pos hp]; exact bk_end p i h
    · rename_i hp; rw [if_neg hp]; simpa using hp
theorem bk_step {p : Nat → Bool} {i : Nat} (h : p i = true) : bk p (i + 1) = bk p i := by rw [bk, if_pos h]
theorem bk_stop {p : Nat → Bool} {i : Nat} (h : p i = false) : bk p (i + 1) = i + 1 := by rw [bk, if_neg (by simp [h])]

/-- The class of the byte before j; -1 at the start. -/
def Cl (f : Nat → Int) (j : Nat) : Int := if j = 0 then -1 else cls (f (j - 1))
/-- Where the run that ends at j begins. -/
def Tl (f : Nat → Int) (j : Nat) : Nat := bk (fun x => cls (f x) == Cl f j) j

theorem cls_range (c : Int) : 0 ≤ cls c ∧ cls c ≤ 3 := by unfold cls; split <;> (try split) <;> (try split) <;> omega
theorem Cl_range (f : Nat → Int) (j : Nat) : -1 ≤ Cl f j ∧ Cl f j ≤ 3 := by
  unfold Cl; split
  · omega
  · have := cls_range (f (j - 1)); omega
theorem Tl_le (f : Nat → Int) (j : Nat) : Tl f j ≤ j := bk_le _ _
theorem Cl_succ (f : Nat → Int) (j : Nat) : Cl f (j + 1) = cls (f j) := by simp [Cl]

theorem run_same {f : Nat → Int} {j : Nat} (h : cls (f j) = Cl f j) : Cl f (j + 1) = Cl f j ∧ Tl f (j + 1) = Tl f j := by
  have h1 : Cl f (j + 1) = Cl f j := by rw [Cl_succ, h]
  refine ⟨h1, ?_⟩
  unfold Tl
  rw [h1]
  exact bk_step (by simp [h])

theorem bk_self {p : Nat → Bool} {j : Nat} (h : j = 0 ∨ p (j - 1) = false) : bk p j = j := by
  cases j with
  | zero => rfl
  | succ j =>
    rcases h with h | h
    · omega
    · exact bk_stop (by simpa using h)

theorem run_new {f : Nat → Int} {j : Nat} (h : cls (f j) ≠ Cl f j) : Cl f (j + 1) = cls (f j) ∧ Tl f (j + 1) = j := by
  refine ⟨Cl_succ f j, ?_⟩
  unfold Tl
  rw [Cl_succ, bk_step (by simp)]
  apply bk_self
  by_cases hj : j = 0
  · exact Or.inl hj
  · right
    have e : Cl f j = cls (f (j - 1)) := by simp [Cl, hj]
    rw [e] at h
    simpa using fun hh => h hh.symm

theorem Tl_lt {f : Nat → Int} {j : Nat} (h : 0 < j) : Tl f j < j := by
  obtain ⟨i, rfl⟩ : ∃ i, j = i + 1 := ⟨j - 1, by omega⟩
  unfold Tl
  rw [Cl_succ, bk_step (by simp)]
  have := bk_le (fun x => cls (f x) == cls (f i)) i
  omega

/-- The run model: the two places between which N stands. -/
def runB (f : Nat → Int) (n : Nat) : Option (Nat × Nat) :=
  let a := Tl f n; let b := Tl f a; let c := Tl f b; let d := Tl f c
  if Cl f c = 0 ∧ Cl f b = 1 ∧ Cl f a = 0 ∧ Cl f n = 1 ∧ Cl f d ≠ 3 then some (d, c) else none

/-- What a place between two points reads as. -/
def outB (f : Nat → Int) (r : Option (Nat × Nat)) : Int × Bool :=
  match r with
  | none => (0, false)
  | some (s, e) => numB (fun j => f (s + j)) (e - s)

/-- The bytes of a run of class 0 are digits. -/
theorem cls_digit {c : Int} (h : cls c = 0) : 48 ≤ c ∧ c ≤ 57 := by
  unfold cls at h
  split at h
  · rename_i hd; simpa [isDg] using hd
  · split at h
    · omega
    · split at h <;> omega
theorem run_digits {f : Nat → Int} {c : Nat} (h : Cl f c = 0) : ∀ j, Tl f c ≤ j → j < c → 48 ≤ f j ∧ f j ≤ 57 := by
  intro j h1 h2
  have := bk_all _ _ _ h1 h2
  rw [h] at this
  exact cls_digit (by simpa using this)

/-- A cut of a row is a row. -/
theorem RowAt.cut {w : World} {b off n : Nat} {f : Nat → Value} (hc : ∀ j, j < n → w.cell? ⟨b, off + j, none⟩ = some (f j)) {s e : Nat} (h1 : s ≤ e) (h2 : e ≤ n) : RowAt w (some ⟨b, off + s, none⟩) (e - s) (fun j => f (s + j)) :=
  ⟨b, off + s, fun _ => rfl, fun j hj => by have := hc (s + j) (by omega); rw [show off + s + j = off + (s + j) from by omega]; exact this⟩

set_option maxHeartbeats 1000000 in
theorem defined_any (a : Option Addr) (n cap : Nat) (at_ : Int) (f : Nat → Int) (w : World) (hn : n ≤ 65536) (hcap : n ≤ cap) (hcap2 : cap ≤ 9223372036854775807) (hat : at_ ≤ n) (hb : ∀ j, j < n → 0 ≤ f j ∧ f j ≤ 255) (h : RowAt w a n (fun j => .int .u8 (f j))) :
    Calls Tryd.prog 6 #[.slice a n cap, .int .i64 at_] w fun e w' => e = .returned (.tuple #[.int .i64 (outB f (runB f at_.toNat)).1, .bool (outB f (runB f at_.toNat)).2]) ∧ w' = w := by
  obtain ⟨b, off, ha, hc⟩ := h
  by_cases h0 : at_ ≤ 0
  · have HE : Hid (outB f (runB f at_.toNat) = (0, false)) := by
      have e : at_.toNat = 0 := by omega
      rw [e]; simp [Hid, runB, outB, Cl]
    go_enter Tryd.func6, Tryd.ntmps6
    go_wp2
    go_ret2
    exact ⟨ret_pair (by rw [HE.out]) (by rw [HE.out]), rfl⟩
  obtain ⟨m, rfl⟩ := Int.eq_ofNat_of_zero_le (show 0 ≤ at_ by omega)
  simp only [Int.toNat_natCast]
  obtain rfl := ha (by omega)
  go_enter Tryd.func6, Tryd.ntmps6
  go_wp2
  go_loop [6, 7, 8, 9, 10, 11, 12, 13, 14, 15] (fun c0 c1 c2 c3 c4 t1 t2 t3 t4 i => ∃ (k x4 x3 x2 x1 : Nat) (y0 y1 y2 y3 y4 : Int), k ≤ m ∧ i = .int .i64 k ∧ x4 ≤ k ∧ x3 ≤ x4 ∧ x2 ≤ x3 ∧ x1 ≤ x2 ∧
      c4 = .int .i64 y4 ∧ t4 = .int .i64 x4 ∧ c3 = .int .i64 y3 ∧ t3 = .int .i64 x3 ∧ c2 = .int .i64 y2 ∧ t2 = .int .i64 x2 ∧ c1 = .int .i64 y1 ∧ t1 = .int .i64 x1 ∧ c0 = .int .i64 y0 ∧
      Hid (x4 = Tl f k ∧ x3 = Tl f x4 ∧ x2 = Tl f x3 ∧ x1 = Tl f x2 ∧ y4 = Cl f k ∧ y3 = Cl f x4 ∧ y2 = Cl f x3 ∧ y1 = Cl f x2 ∧ y0 = Cl f x1))
    (fun _ _ _ _ _ _ _ _ _ i => m - (intOf i).toNat)
  case atStart => exact ⟨0, 0, 0, 0, 0, -1, -1, -1, -1, -1, by omega, rfl, by omega, by omega, by omega, by omega, rfl, rfl, rfl, rfl, rfl, rfl, rfl, rfl, rfl, ⟨rfl, rfl, rfl, rfl, rfl, rfl, rfl, rfl, rfl⟩⟩
  case round =>
    obtain ⟨k, x4, x3, x2, x1, y0, y1, y2, y3, y4, hk, rfl, hx4, hx3, hx2, hx1, rfl, rfl, rfl, rfl, rfl, rfl, rfl, rfl, rfl, HX⟩ := hrel
    by_cases hlt : k < m
    · have c1 := hc k (by omega)
      have b1 := hb k (by omega)
      by_cases hsame : cls (f k) = y4
      · have hs' : (cls (f k) == y4) = true := by simp [hsame]
        have HX' : Hid (x4 = Tl f (k + 1) ∧ x3 = Tl f x4 ∧ x2 = Tl f x3 ∧ x1 = Tl f x2 ∧ y4 = Cl f (k + 1) ∧ y3 = Cl f x4 ∧ y2 = Cl f x3 ∧ y1 = Cl f x2 ∧ y0 = Cl f x1) := by
          obtain ⟨g1, g2, g3, g4, g5, g6⟩ := HX.out
          have := run_same (f := f) (j := k) (by rw [hsame, g5])
          exact ⟨by rw [this.2]; exact g1, g2, g3, g4, by rw [this.1]; exact g5, g6⟩
        clear hc hb HX hsame
        go_wp2_with (go_at_call 12; refine (class_any _ _ b1.1 b1.2).mono ?_; rintro e w' ⟨rfl, rfl⟩)
        go_round
        case rel => exact ⟨k + 1, x4, x3, x2, x1, y0, y1, y2, y3, y4, by omega, by go_num, by omega, hx3, hx2, hx1, rfl, rfl, rfl, rfl, rfl, rfl, rfl, rfl, rfl, HX'⟩
        case measure => simp only [intOf]; omega
      · have hs' : (cls (f k) == y4) = false := by simp [hsame]
        have HX' : Hid (k = Tl f (k + 1) ∧ x4 = Tl f k ∧ x3 = Tl f x4 ∧ x2 = Tl f x3 ∧ cls (f k) = Cl f (k + 1) ∧ y4 = Cl f k ∧ y3 = Cl f x4 ∧ y2 = Cl f x3 ∧ y1 = Cl f x2) := by
          obtain ⟨g1, g2, g3, g4, g5, g6, g7, g8, g9⟩ := HX.out
          have := run_new (f := f) (j := k) (by rw [← g5]; exact hsame)
          exact ⟨this.2.symm, g1, g2, g3, this.1.symm, g5, g6, g7, g8⟩
        clear hc hb HX hsame
        go_wp2_with (go_at_call 12; refine (class_any _ _ b1.1 b1.2).mono ?_; rintro e w' ⟨rfl, rfl⟩)
        go_round
        case rel => exact ⟨k + 1, k, x4, x3, x2, y1, y2, y3, y4, cls (f k), by omega, by go_num, by omega, hx4, hx3, hx2, rfl, rfl, rfl, rfl, rfl, rfl, rfl, rfl, rfl, HX'⟩
        case measure => simp only [intOf]; omega
    · obtain rfl : m = k := by omega
      by_cases hcnd : y1 = 0 ∧ y2 = 1 ∧ y3 = 0 ∧ y4 = 1 ∧ y0 ≠ 3
      · obtain ⟨e1, e2, e3, e4, e5⟩ := hcnd
        have HR : Hid (runB f m = some (x1, x2)) := by
          obtain ⟨g1, g2, g3, g4, g5, g6, g7, g8, g9⟩ := HX.out
          unfold Hid runB
          simp only [← g1, ← g2, ← g3, ← g4]
          rw [if_pos ⟨by rw [← g8]; exact e1, by rw [← g7]; exact e2, by rw [← g6]; exact e3, by rw [← g5]; exact e4, by rw [← g9]; exact e5⟩]
        have hdig : ∀ j, x1 ≤ j → j < x2 → 48 ≤ f j ∧ f j ≤ 57 := by
          obtain ⟨g1, g2, g3, g4, g5, g6, g7, g8, g9⟩ := HX.out
          rw [g4]; exact run_digits (by rw [← g8]; exact e1)
        have hx12 : x1 < x2 := by
          obtain ⟨g1, g2, g3, g4, g5, g6, g7, g8, g9⟩ := HX.out
          rw [g4]
          apply Tl_lt
          by_cases hz : x2 = 0
          · rw [hz, e1] at g8; simp [Cl] at g8
          · omega
        have row := RowAt.cut (w := w) (b := b) (off := off) (n := n) (f := fun j => .int .u8 (f j)) hc hx1 (by omega)
        have q0 : (y0 == 3) = false := by simp [e5]
        subst e1 e2 e3 e4
        have HO : Hid (outB f (runB f m) = numB (fun j => f (x1 + j)) (x2 - x1)) := by unfold Hid; rw [HR.out]; rfl
        clear HX hc hb e5
        go_wp2_with fail
        refine (decimal_any _ _ _ (fun j => f (x1 + j)) _ (by omega) (fun j hj => hdig _ (by omega) (by omega)) row).mono ?_
        rintro e w' ⟨rfl, rfl⟩
        go_wp2_with fail
        go_ret2
        exact ⟨ret_pair (by rw [HO.out]) (by rw [HO.out]), rfl⟩
      · have HR : Hid (outB f (runB f m) = (0, false)) := by
          obtain ⟨g1, g2, g3, g4, g5, g6, g7, g8, g9⟩ := HX.out
          unfold Hid runB
          simp only [← g1, ← g2, ← g3, ← g4]
          rw [if_neg (by rw [← g8, ← g7, ← g6, ← g5, ← g9]; exact hcnd)]
          rfl
        clear HX hc hb
        have HC : Hid (¬ (y1 = 0 ∧ y2 = 1 ∧ y3 = 0 ∧ y4 = 1 ∧ y0 ≠ 3)) := hcnd
        clear hcnd
        go_wp2_with fail
        all_goals first
          | (go_ret2; exact ⟨ret_pair (by rw [HR.out]) (by rw [HR.out]), rfl⟩)
          | (exfalso
             have q1 : (y0 == 3) = false := by assumption
             exact HC.out ⟨by first | assumption | rfl, by first | assumption | rfl, by first | assumption | rfl, by first | assumption | rfl, by simpa using q1⟩)
end Go.Proofs.Qxb6619267aDoor
