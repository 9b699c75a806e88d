import Derived.Test.Qxb6618426aFilt
namespace Go.Proofs.Qxb6618426a
open Go.RowKit

theorem Try.info45 : (Try.prog.info? 45).map (fun i => (i.zero, i.size, i.bytes)) = some (some (.int .u64 0), 1, 8) := by kernel_rfl

/-- A filter that is being filled: the slots of the numbers for which D holds are set. -/
structure Marked (w wr : World) (b W : Nat) (F : Nat → Int) (D : Int → Prop) : Prop where
  below : Below w.heap.size w wr
  row : wr.rowIs b 45 W (fun j => .int .u64 (F j))
  set : ∀ n, D n → bitAt (F (slotOf W n / 64)) (slotOf W n % 64) = true

theorem Marked.next {w wr : World} {b W : Nat} {F : Nat → Int} {D : Int → Prop} (h : Marked w wr b W F D) (hb : w.heap.size ≤ b) (n : Int) {D' : Int → Prop} (hD : ∀ x, D' x → D x ∨ x = n) :
    ∃ F', Marked w (wr.setCell ⟨b, slotOf W n / 64, none⟩ (.int .u64 (setAt (F (slotOf W n / 64)) (slotOf W n % 64)))) b W F' D' := by
  refine ⟨fun j => if j = slotOf W n / 64 then setAt (F (slotOf W n / 64)) (slotOf W n % 64) else F j, h.below.setCell hb _, (h.row.set _ _).congr (fun j _ => ?_), fun x hx => ?_⟩
  · by_cases e : j = slotOf W n / 64 <;> simp [e]
  · by_cases e : slotOf W x / 64 = slotOf W n / 64
    · rw [if_pos e, bitAt_setAt _ _ _ (Nat.mod_lt _ (by omega)) (Nat.mod_lt _ (by omega))]
      rcases hD x hx with h1 | h1
      · have := h.set x h1; rw [e] at this; rw [this]; rfl
      · subst h1; simp
    · rw [if_neg e]
      rcases hD x hx with h1 | h1
      · exact h.set x h1
      · subst h1; exact absurd rfl e

theorem Marked.filt {w wr : World} {b W : Nat} {F : Nat → Int} {D : Int → Prop} (h : Marked w wr b W F D) : ∃ B, FiltAt wr (some ⟨b, 0, none⟩) W B ∧ ∀ n, D n → B (slotOf W n) = true :=
  ⟨fun s => bitAt (F (s / 64)) (s % 64), ⟨F, rowAt_of_rowIs h.row, fun _ _ => rfl⟩, h.set⟩

/-- What zzFilterOf hands back. -/
def Filtered (w w' : World) (W n : Nat) (f : Nat → Int) (e : Ending) : Prop :=
  e = .returned (.slice (some ⟨w.heap.size, 0, none⟩) W W) ∧ Below w.heap.size w w' ∧ ∃ B, FiltAt w' (some ⟨w.heap.size, 0, none⟩) W B ∧ ∀ j, j < n → B (slotOf W (f j)) = true

set_option maxHeartbeats 400000 in
theorem filterOf_any (a : Option Addr) (n cap W : Nat) (f : Nat → Int) (w : World) (hn : n ≤ 1048576) (h0 : 0 < W) (hW : W ≤ 64) (h : RowAt w a n (fun j => .int .i32 (f j))) :
    Calls Try.prog 17 #[.slice a n cap, .int .i64 W] w fun e w' => Filtered w w' W n f e := by
  have hmk := run_make_row' (P := Try.prog) 41 45 (.int .u64 0) 8 Try.underlying41 Try.info45 rfl .i64 .i64 W (by omega) (by omega)
  obtain ⟨b, off, ha, hc⟩ := h
  go_enter Try.func17, Try.ntmps17
  go_wp2
  clear hmk
  go_loopw [6] (fun i wr => ∃ (k : Nat) (F : Nat → Int), k ≤ n ∧ i = .int .i64 k ∧ Marked w wr w.heap.size W F (fun x => ∃ j, j < k ∧ x = f j)) (fun i _ => n - (intOf i).toNat)
  case atStart => exact ⟨0, fun _ => 0, by omega, rfl, (Below.refl _ _).alloc (Nat.le_refl _) _, World.rowIs_made w _ W 45, fun x ⟨j, hj, _⟩ => by omega⟩
  case round =>
    obtain ⟨k, F, hk, rfl, HM⟩ := hrel
    by_cases hlt : k < n
    · obtain rfl := ha (by omega)
      have c1 : wr.cell? ⟨b, off + k, none⟩ = some (.int .i32 (f k)) := by
        rw [HM.below.cell (p := ⟨b, off + k, none⟩) (World.block_lt_of_cell? _ _ (hc k hlt))]; exact hc k hlt
      have hrow := HM.row
      obtain ⟨F', HM'⟩ := HM.next (Nat.le_refl _) (f k) (D' := fun x => ∃ j, j < k + 1 ∧ x = f j) (fun x ⟨j, hj, e⟩ => by
        by_cases hjk : j = k
        · subst hjk; exact Or.inr e
        · exact Or.inl ⟨j, by omega, e⟩)
      clear hc HM
      go_wp2_with (go_at_call 19; refine (mark_any _ _ _ _ _ _ h0 hW hrow).mono ?_; rintro e w' ⟨rfl, rfl⟩)
      go_roundw
      case rel => exact ⟨k + 1, F', by omega, by go_num, HM'⟩
      case measure => simp only [intOf]; omega
    · obtain rfl : k = n := by omega
      clear hc
      go_wp2
      go_ret
      obtain ⟨B, h1, h2⟩ := HM.filt
      exact ⟨rfl, HM.below, B, h1, fun j hj => h2 _ ⟨j, hj, rfl⟩⟩

theorem newKept_any (bl : Int) (a1 a2 a3 a4 : Option Addr) (n1 c1 n2 c2 n3 c3 n4 c4 : Nat) (w : World) :
    Calls Try.prog 20 #[.int .i32 bl, .slice a1 n1 c1, .slice a2 n2 c2, .slice a3 n3 c3, .slice a4 n4 c4] w fun e w' => e = .returned (.pointer (some ⟨w.heap.size, 0, none⟩)) ∧
      w' = w.alloc (.cells #[.int .i32 bl, .slice a1 n1 c1, .slice a2 n2 c2, .slice a3 n3 c3, .slice a4 n4 c4] 72) := by
  go_enter Try.func20, Try.ntmps20
  go_wp2
  go_ret
  exact ⟨rfl, rfl⟩

/-- What holdsOneOf comes to. -/
def filtB (W : Nat) (B : Nat → Bool) (n : Nat) (f : Nat → Int) (m : Nat) (g : Nat → Int) : Bool := anyTo (fun j => B (slotOf W (f j)) && bsFound m g (f j)) n

set_option maxHeartbeats 400000 in
theorem holdsOneOf_any (fa a c : Option Addr) (W fc n cap m cap' : Nat) (B : Nat → Bool) (f g : Nat → Int) (w : World) (h0 : 0 < W) (hW : W ≤ 64) (hn : n ≤ 1048576) (hm : m ≤ 1048576)
    (hB : FiltAt w fa W B) (hf : RowAt w a n (fun j => .int .i32 (f j))) (hg : RowAt w c m (fun j => .int .i32 (g j))) :
    Calls Try.prog 41 #[.slice fa W fc, .slice a n cap, .slice c m cap'] w fun e w' => e = .returned (.bool (filtB W B n f m g)) ∧ w' = w := by
  obtain ⟨b, off, ha, hc⟩ := hf
  go_enter Try.func41, Try.ntmps41
  go_wp2
  go_loop [13] (fun i => ∃ k : Nat, k ≤ n ∧ i = .int .i64 k ∧ Hid (anyTo (fun j => B (slotOf W (f j)) && bsFound m g (f j)) k = false)) (fun i => n - (intOf i).toNat)
  case atStart => exact ⟨0, Nat.zero_le _, rfl, rfl⟩
  case round =>
    obtain ⟨k, hk, rfl, HK⟩ := hrel
    by_cases hlt : k < n
    · obtain rfl := ha (by omega)
      have hcell : w.cell? ⟨b, off + k, none⟩ = some (.int .i32 (f k)) := hc _ hlt
      clear hc
      by_cases hp : B (slotOf W (f k)) = true
      · by_cases hb : bsFound m g (f k) = true
        · go_wp2_with (first
            | (go_at_call 35; refine (passes_any _ _ _ _ _ _ h0 hW hB).mono ?_; rintro e w' ⟨rfl, rfl⟩)
            | (go_at_call 34; refine (bs_any _ _ _ g _ _ hm hg).mono ?_; rintro e w' ⟨⟨p, rfl⟩, rfl⟩))
          go_ret
          exact ⟨ret_bool (by unfold filtB; exact (anyTo_hit hlt (by simp [hp, hb])).symm), rfl⟩
        · have hb' : bsFound m g (f k) = false := by simpa using hb
          clear hb
          go_wp2_with (first
            | (go_at_call 35; refine (passes_any _ _ _ _ _ _ h0 hW hB).mono ?_; rintro e w' ⟨rfl, rfl⟩)
            | (go_at_call 34; refine (bs_any _ _ _ g _ _ hm hg).mono ?_; rintro e w' ⟨⟨p, rfl⟩, rfl⟩))
          go_round
          case rel => exact ⟨k + 1, by omega, by go_num, anyTo_no HK.out (by simp [hb'])⟩
          case measure => simp only [intOf]; omega
      · have hp' : B (slotOf W (f k)) = false := by simpa using hp
        clear hp
        go_wp2_with (go_at_call 35; refine (passes_any _ _ _ _ _ _ h0 hW hB).mono ?_; rintro e w' ⟨rfl, rfl⟩)
        go_round
        case rel => exact ⟨k + 1, by omega, by go_num, anyTo_no HK.out (by simp [hp'])⟩
        case measure => simp only [intOf]; omega
    · obtain rfl : k = n := by omega
      clear hc
      go_wp2
      go_ret
      exact ⟨ret_bool (by unfold filtB; exact HK.out.symm), rfl⟩

/-- A filter of a list lets all of the list pass: the answer is the lists' own. -/
theorem filtB_iff {W : Nat} {B : Nat → Bool} {n : Nat} {f : Nat → Int} {m : Nat} {g : Nat → Int} (hg : Mono m g) (hB : ∀ j, j < m → B (slotOf W (g j)) = true) : filtB W B n f m g = true ↔ Share n f m g := by
  unfold filtB Share
  rw [anyTo_iff]
  constructor
  · rintro ⟨i, hi, h⟩
    simp only [Bool.and_eq_true] at h
    obtain ⟨j, hj, e⟩ := (bsFound_iff hg).1 h.2
    exact ⟨i, j, hi, hj, e.symm⟩
  · rintro ⟨i, j, hi, hj, e⟩
    refine ⟨i, hi, ?_⟩
    simp only [Bool.and_eq_true]
    exact ⟨by rw [e]; exact hB j hj, (bsFound_iff hg).2 ⟨j, hj, e.symm⟩⟩
end Go.Proofs.Qxb6618426a
