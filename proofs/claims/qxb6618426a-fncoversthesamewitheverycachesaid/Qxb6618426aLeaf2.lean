import Derived.Test.Qxb6618426aLeaf
namespace Go.Proofs.Qxb6618426a
open Go.RowKit

/-- Some number below n passes p. -/
def anyTo (p : Nat → Bool) : Nat → Bool
  | 0 => false
  | n + 1 => anyTo p n || p n

theorem anyTo_iff (p : Nat → Bool) (n : Nat) : anyTo p n = true ↔ ∃ j, j < n ∧ p j = true := by
  induction n with
  | zero => simp [anyTo]
  | succ n ih =>
    simp only [anyTo, Bool.or_eq_true, ih]
    constructor
    · rintro (⟨j, hj, h⟩ | h)
      · exact ⟨j, by omega, h⟩
      · exact ⟨n, by omega, h⟩
    · rintro ⟨j, hj, h⟩
      by_cases e : j = n
      · subst e; exact Or.inr h
      · exact Or.inl ⟨j, by omega, h⟩

theorem anyTo_hit {p : Nat → Bool} {n k : Nat} (hk : k < n) (h : p k = true) : anyTo p n = true := (anyTo_iff p n).2 ⟨k, hk, h⟩

def shOne (n : Nat) (f : Nat → Int) (m : Nat) (g : Nat → Int) : Bool :=
  if m < n then anyTo (fun j => bsFound n f (g j)) m else anyTo (fun j => bsFound m g (f j)) n

set_option maxHeartbeats 400000 in
theorem shareOne_any (a c : Option Addr) (n m cap cap' : Nat) (f g : Nat → Int) (w : World) (hn : n ≤ 1048576) (hm : m ≤ 1048576)
    (hf : RowAt w a n (fun j => .int .i32 (f j))) (hg : RowAt w c m (fun j => .int .i32 (g j))) :
    Calls Try.prog 40 #[.slice a n cap, .slice c m cap'] w fun e w' => e = .returned (.bool (shOne n f m g)) ∧ w' = w := by
  have HF := hf
  have HG := hg
  obtain ⟨b, off, ha, hc⟩ := hf
  obtain ⟨b', off', ha', hc'⟩ := hg
  by_cases hsw : m < n
  · have E : Hid (shOne n f m g = anyTo (fun j => bsFound n f (g j)) m) := by unfold shOne; rw [if_pos hsw]; rfl
    go_enter Try.func40, Try.ntmps40
    go_wp2
    go_loop [18] (fun i => ∃ k : Nat, k ≤ m ∧ i = .int .i64 k ∧ Hid (anyTo (fun j => bsFound n f (g j)) k = false)) (fun i => m - (intOf i).toNat)
    case atStart => exact ⟨0, Nat.zero_le _, rfl, rfl⟩
    case round =>
      obtain ⟨k, hk, rfl, HK⟩ := hrel
      by_cases hlt : k < m
      · obtain rfl := ha' (by omega)
        have hcell : w.cell? ⟨b', off' + k, none⟩ = some (.int .i32 (g k)) := hc' _ hlt
        by_cases hb : bsFound n f (g k) = true
        · go_wp2_with (go_at_call 34; refine (bs_any _ _ _ f _ _ hn HF).mono ?_; rintro e w' ⟨⟨p, rfl⟩, rfl⟩)
          go_ret
          exact ⟨ret_bool (by rw [E.out]; exact (anyTo_hit hlt hb).symm), rfl⟩
        · have hb' : bsFound n f (g k) = false := by simpa using hb
          clear hb
          go_wp2_with (go_at_call 34; refine (bs_any _ _ _ f _ _ hn HF).mono ?_; rintro e w' ⟨⟨p, rfl⟩, rfl⟩)
          go_round
          case rel => exact ⟨k + 1, by omega, by go_num, by simp only [Hid, anyTo, Bool.or_eq_false_iff]; exact ⟨HK.out, hb'⟩⟩
          case measure => simp only [intOf]; omega
      · obtain rfl : k = m := by omega
        go_wp2
        go_ret
        exact ⟨ret_bool (by rw [E.out]; exact HK.out.symm), rfl⟩
  · have E : Hid (shOne n f m g = anyTo (fun j => bsFound m g (f j)) n) := by unfold shOne; rw [if_neg hsw]; rfl
    go_enter Try.func40, Try.ntmps40
    go_wp2
    go_loop [18] (fun i => ∃ k : Nat, k ≤ n ∧ i = .int .i64 k ∧ Hid (anyTo (fun j => bsFound m g (f j)) k = false)) (fun i => n - (intOf i).toNat)
    case atStart => exact ⟨0, Nat.zero_le _, rfl, rfl⟩
    case round =>
      obtain ⟨k, hk, rfl, HK⟩ := hrel
      by_cases hlt : k < n
      · obtain rfl := ha (by omega)
        have hcell : w.cell? ⟨b, off + k, none⟩ = some (.int .i32 (f k)) := hc _ hlt
        by_cases hb : bsFound m g (f k) = true
        · go_wp2_with (go_at_call 34; refine (bs_any _ _ _ g _ _ hm HG).mono ?_; rintro e w' ⟨⟨p, rfl⟩, rfl⟩)
          go_ret
          exact ⟨ret_bool (by rw [E.out]; exact (anyTo_hit hlt hb).symm), rfl⟩
        · have hb' : bsFound m g (f k) = false := by simpa using hb
          clear hb
          go_wp2_with (go_at_call 34; refine (bs_any _ _ _ g _ _ hm HG).mono ?_; rintro e w' ⟨⟨p, rfl⟩, rfl⟩)
          go_round
          case rel => exact ⟨k + 1, by omega, by go_num, by simp only [Hid, anyTo, Bool.or_eq_false_iff]; exact ⟨HK.out, hb'⟩⟩
          case measure => simp only [intOf]; omega
      · obtain rfl : k = n := by omega
        go_wp2
        go_ret
        exact ⟨ret_bool (by rw [E.out]; exact HK.out.symm), rfl⟩

/-- Two ascending lists side by side. -/
def merge (n : Nat) (f : Nat → Int) (m : Nat) (g : Nat → Int) : Nat → Nat → Nat → Bool
  | 0, _, _ => false
  | k + 1, i, j => if i < n ∧ j < m then (if f i = g j then true else if f i < g j then merge n f m g k (i + 1) j else merge n f m g k i (j + 1)) else false

theorem merge_done (n : Nat) (f : Nat → Int) (m : Nat) (g : Nat → Int) (k i j : Nat) (h : ¬ (i < n ∧ j < m)) : merge n f m g k i j = false := by
  cases k with
  | zero => rfl
  | succ k => rw [merge, if_neg h]

set_option maxHeartbeats 400000 in
theorem shares_any (a c : Option Addr) (n m cap cap' : Nat) (f g : Nat → Int) (w : World) (hn : n ≤ 1048576) (hm : m ≤ 1048576)
    (hf : RowAt w a n (fun j => .int .i32 (f j))) (hg : RowAt w c m (fun j => .int .i32 (g j))) :
    Calls Try.prog 18 #[.slice a n cap, .slice c m cap'] w fun e w' => e = .returned (.bool (merge n f m g (n + m) 0 0)) ∧ ∃ q, w' = w.drewN q := by
  obtain ⟨b, off, ha, hc⟩ := hf
  obtain ⟨b', off', ha', hc'⟩ := hg
  go_enter Try.func18, Try.ntmps18
  go_wp2
  go_loopw [5, 6] (fun i j wr => ∃ x y k q : Nat, x ≤ n ∧ y ≤ m ∧ i = .int .i64 x ∧ j = .int .i64 y ∧ wr = w.drewN q ∧ n - x + (m - y) ≤ k ∧ Hid (merge n f m g k x y = merge n f m g (n + m) 0 0))
    (fun i j _ => (n - (intOf i).toNat) + (m - (intOf j).toNat))
  case atStart => exact ⟨0, 0, n + m, 0, Nat.zero_le _, Nat.zero_le _, rfl, rfl, rfl, by omega, rfl⟩
  case round =>
    obtain ⟨x, y, k, q, hx, hy, rfl, rfl, rfl, hk, HM⟩ := hrel
    by_cases hxn : x < n
    · by_cases hym : y < m
      · obtain rfl := ha (by omega)
        obtain rfl := ha' (by omega)
        have hcell : w.cell? ⟨b, off + x, none⟩ = some (.int .i32 (f x)) := hc _ hxn
        have hcell' : w.cell? ⟨b', off' + y, none⟩ = some (.int .i32 (g y)) := hc' _ hym
        cases k with
        | zero => omega
        | succ k' =>
          by_cases heq : f x = g y
          · have heq' : (f x == g y) = true := by simp [heq]
            have E : Hid (merge n f m g (n + m) 0 0 = true) := by
              unfold Hid; rw [← HM.out, merge, if_pos ⟨hxn, hym⟩, if_pos heq]
            clear heq
            go_wp2
            go_quiet (fail)
            go_wp2
            go_ret
            exact ⟨ret_bool E.out.symm, q + nq, by simp⟩
          · have heq' : (f x == g y) = false := by simp [heq]
            by_cases hl : f x < g y
            · have E : Hid (merge n f m g k' (x + 1) y = merge n f m g (n + m) 0 0) := by
                unfold Hid; rw [← HM.out, merge, if_pos ⟨hxn, hym⟩, if_neg heq, if_pos hl]
              clear heq
              go_wp2
              go_quiet (fail)
              go_wp2
              go_quiet (fail)
              go_wp2
              go_roundw
              case rel => exact ⟨x + 1, y, k', _, by omega, hy, by go_num, rfl, rfl, by omega, E⟩
              case measure => simp only [intOf]; omega
            · have E : Hid (merge n f m g k' x (y + 1) = merge n f m g (n + m) 0 0) := by
                unfold Hid; rw [← HM.out, merge, if_pos ⟨hxn, hym⟩, if_neg heq, if_neg hl]
              clear heq
              go_wp2
              go_quiet (fail)
              go_wp2
              go_quiet (fail)
              go_wp2
              go_roundw
              case rel => exact ⟨x, y + 1, k', _, hx, by omega, rfl, by go_num, rfl, by omega, E⟩
              case measure => simp only [intOf]; omega
      · have E : Hid (merge n f m g (n + m) 0 0 = false) := by
          unfold Hid; rw [← HM.out]; exact merge_done _ _ _ _ _ _ _ (by omega)
        go_wp2
        go_ret
        exact ⟨ret_bool E.out.symm, _, rfl⟩
    · have E : Hid (merge n f m g (n + m) 0 0 = false) := by
        unfold Hid; rw [← HM.out]; exact merge_done _ _ _ _ _ _ _ (by omega)
      go_wp2
      go_ret
      exact ⟨ret_bool E.out.symm, _, rfl⟩

def sortedB (n : Nat) (f : Nat → Int) : Bool := !anyTo (fun i => decide (f (i + 1) < f i)) (n - 1)

set_option maxHeartbeats 400000 in
theorem sorted_any (a : Option Addr) (n cap : Nat) (f : Nat → Int) (w : World) (hn : n ≤ 1048576)
    (hf : RowAt w a n (fun j => .int .i32 (f j))) :
    Calls Try.prog 21 #[.slice a n cap] w fun e w' => e = .returned (.bool (sortedB n f)) ∧ ∃ q, w' = w.drewN q := by
  obtain ⟨b, off, ha, hc⟩ := hf
  go_enter Try.func21, Try.ntmps21
  go_wp2
  go_loopw [3] (fun i wr => ∃ x q : Nat, 1 ≤ x ∧ i = .int .i64 x ∧ wr = w.drewN q ∧ x ≤ n + 1 ∧ (n = 0 → x = 1) ∧ (0 < n → x ≤ n) ∧ Hid (anyTo (fun i => decide (f (i + 1) < f i)) (x - 1) = false))
    (fun i _ => n + 1 - (intOf i).toNat)
  case atStart => exact ⟨1, 0, by omega, rfl, rfl, by omega, by omega, by omega, rfl⟩
  case round =>
    obtain ⟨x, q, hx1, rfl, rfl, hx2, hx3, hx4, HA⟩ := hrel
    by_cases hlt : x < n
    · obtain rfl := ha (by omega)
      obtain ⟨y, rfl⟩ : ∃ y, x = y + 1 := ⟨x - 1, by omega⟩
      have hcell : w.cell? ⟨b, off + y, none⟩ = some (.int .i32 (f y)) := hc _ (by omega)
      have hcell' : w.cell? ⟨b, off + (y + 1), none⟩ = some (.int .i32 (f (y + 1))) := hc _ hlt
      clear hx3 hx4
      by_cases hl : f (y + 1) < f y
      · go_wp2
        go_quiet (fail)
        go_wp2
        go_ret
        exact ⟨ret_bool (by unfold sortedB; rw [anyTo_hit (k := y) (by omega) (by simpa using hl)]; rfl), q + nq, by simp⟩
      · go_wp2
        go_quiet (fail)
        go_wp2
        go_roundw
        case rel => exact ⟨y + 1 + 1, q + nq, by omega, by go_num, by simp, by omega, by omega, by omega, by simp only [Hid, Nat.add_sub_cancel, anyTo, Bool.or_eq_false_iff]; exact ⟨HA.out, by simpa using hl⟩⟩
        case measure => simp only [intOf]; omega
    · have hxn : x - 1 = n - 1 := by omega
      have E : Hid (anyTo (fun i => decide (f (i + 1) < f i)) (n - 1) = false) := by have := HA.out; rw [hxn] at this; exact this
      clear hxn HA
      go_wp2
      go_ret
      exact ⟨ret_bool (by unfold sortedB; rw [E.out]; rfl), q, rfl⟩

/-- One segment of a grant's path meets one of the permission. -/
def segM (p q : ByteArray) : Bool := p.toList == [42] || p.toList == q.toList
def matchB (n : Nat) (p : Nat → ByteArray) (m : Nat) (q : Nat → ByteArray) : Bool := decide (n = m) && !anyTo (fun j => !segM (p j) (q j)) n
def sameB (n : Nat) (p : Nat → ByteArray) (m : Nat) (q : Nat → ByteArray) : Bool := decide (n = m) && !anyTo (fun j => !((p j).toList == (q j).toList)) n

set_option maxHeartbeats 400000 in
theorem matches_any (a c : Option Addr) (n m cap cap' : Nat) (p r : Nat → ByteArray) (w : World) (hn : n ≤ 1048576) (hm : m ≤ 1048576)
    (hf : RowAt w a n (fun j => .string (p j))) (hg : RowAt w c m (fun j => .string (r j))) :
    Calls Try.prog 29 #[.slice a n cap, .slice c m cap'] w fun e w' => e = .returned (.bool (matchB n p m r)) ∧ ∃ q, w' = w.drewN q := by
  obtain ⟨b, off, ha, hc⟩ := hf
  obtain ⟨b', off', ha', hc'⟩ := hg
  by_cases hnm : n = m
  · subst hnm
    go_enter Try.func29, Try.ntmps29
    go_wp2
    go_loopw [5] (fun i wr => ∃ x q : Nat, x ≤ n ∧ i = .int .i64 x ∧ wr = w.drewN q ∧ Hid (anyTo (fun j => !segM (p j) (r j)) x = false))
      (fun i _ => n - (intOf i).toNat)
    case atStart => exact ⟨0, 0, by omega, rfl, rfl, rfl⟩
    case round =>
      obtain ⟨x, q, hx, rfl, rfl, HA⟩ := hrel
      by_cases hlt : x < n
      · obtain rfl := ha (by omega)
        obtain rfl := ha' (by omega)
        have hcell : w.cell? ⟨b, off + x, none⟩ = some (.string (p x)) := hc _ hlt
        have hcell' : w.cell? ⟨b', off' + x, none⟩ = some (.string (r x)) := hc' _ hlt
        by_cases h1 : ((p x).toList == [42]) = true
        · go_wp2
          go_quiet (fail)
          go_wp2
          go_roundw
          case rel => exact ⟨x + 1, q + nq, by omega, by go_num, by simp, by simp only [Hid, anyTo, Bool.or_eq_false_iff]; exact ⟨HA.out, by simp [segM, h1]⟩⟩
          case measure => simp only [intOf]; omega
        · have h1' : ((p x).toList == [42]) = false := by simpa using h1
          clear h1
          by_cases h2 : ((p x).toList == (r x).toList) = true
          · go_wp2
            go_quiet (fail)
            go_wp2
            go_roundw
            case rel => exact ⟨x + 1, q + nq, by omega, by go_num, by simp, by simp only [Hid, anyTo, Bool.or_eq_false_iff]; exact ⟨HA.out, by simp [segM, h2]⟩⟩
            case measure => simp only [intOf]; omega
          · have h2' : ((p x).toList == (r x).toList) = false := by simpa using h2
            clear h2
            go_wp2
            go_quiet (fail)
            go_wp2
            go_ret
            exact ⟨ret_bool (by unfold matchB; rw [anyTo_hit (k := x) hlt (by simp [segM, h1', h2'])]; simp), q + nq, by simp⟩
      · obtain rfl : x = n := by omega
        go_wp2
        go_ret
        exact ⟨ret_bool (by unfold matchB; rw [HA.out]; simp), q, rfl⟩
  · go_enter Try.func29, Try.ntmps29
    go_wp2
    go_ret
    exact ⟨ret_bool (by unfold matchB; simp [hnm]), 0, rfl⟩

set_option maxHeartbeats 400000 in
theorem same_any (a c : Option Addr) (n m cap cap' : Nat) (p r : Nat → ByteArray) (w : World) (hn : n ≤ 1048576) (hm : m ≤ 1048576)
    (hf : RowAt w a n (fun j => .string (p j))) (hg : RowAt w c m (fun j => .string (r j))) :
    Calls Try.prog 30 #[.slice a n cap, .slice c m cap'] w fun e w' => e = .returned (.bool (sameB n p m r)) ∧ ∃ q, w' = w.drewN q := by
  obtain ⟨b, off, ha, hc⟩ := hf
  obtain ⟨b', off', ha', hc'⟩ := hg
  by_cases hnm : n = m
  · subst hnm
    go_enter Try.func30, Try.ntmps30
    go_wp2
    go_loopw [5] (fun i wr => ∃ x q : Nat, x ≤ n ∧ i = .int .i64 x ∧ wr = w.drewN q ∧ Hid (anyTo (fun j => !((p j).toList == (r j).toList)) x = false))
      (fun i _ => n - (intOf i).toNat)
    case atStart => exact ⟨0, 0, by omega, rfl, rfl, rfl⟩
    case round =>
      obtain ⟨x, q, hx, rfl, rfl, HA⟩ := hrel
      by_cases hlt : x < n
      · obtain rfl := ha (by omega)
        obtain rfl := ha' (by omega)
        have hcell : w.cell? ⟨b, off + x, none⟩ = some (.string (p x)) := hc _ hlt
        have hcell' : w.cell? ⟨b', off' + x, none⟩ = some (.string (r x)) := hc' _ hlt
        by_cases h2 : ((p x).toList == (r x).toList) = true
        · go_wp2
          go_quiet (fail)
          go_wp2
          go_roundw
          case rel => exact ⟨x + 1, q + nq, by omega, by go_num, by simp, by simp only [Hid, anyTo, Bool.or_eq_false_iff]; exact ⟨HA.out, by simp [h2]⟩⟩
          case measure => simp only [intOf]; omega
        · have h2' : ((p x).toList == (r x).toList) = false := by simpa using h2
          clear h2
          go_wp2
          go_quiet (fail)
          go_wp2
          go_ret
          exact ⟨ret_bool (by unfold sameB; rw [anyTo_hit (k := x) hlt (by simp [h2'])]; simp), q + nq, by simp⟩
      · obtain rfl : x = n := by omega
        go_wp2
        go_ret
        exact ⟨ret_bool (by unfold sameB; rw [HA.out]; simp), q, rfl⟩
  · go_enter Try.func30, Try.ntmps30
    go_wp2
    go_ret
    exact ⟨ret_bool (by unfold sameB; simp [hnm]), 0, rfl⟩

end Go.Proofs.Qxb6618426a
