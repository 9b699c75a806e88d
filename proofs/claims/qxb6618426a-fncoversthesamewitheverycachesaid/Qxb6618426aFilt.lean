import Derived.Test.Qxb6618426aLaw
namespace Go.Proofs.Qxb6618426a
open Go.RowKit

/-! ### bits of a word -/
def bitAt (x : Int) (i : Nat) : Bool := bits .and .u64 x (IntKind.u64.wrap (2 ^ i)) != 0
def setAt (x : Int) (i : Nat) : Int := bits .or .u64 x (IntKind.u64.wrap (2 ^ i))

theorem wrap_nat (n : Nat) (h : n < 18446744073709551616) : IntKind.u64.wrap (n : Int) = n := by
  simp only [IntKind.wrap]
  simp [IntKind.bits, IntKind.signed]
  omega

theorem ofInt_pow (i : Nat) (h : i < 64) : BitVec.ofInt 64 (IntKind.u64.wrap (2 ^ i)) = BitVec.twoPow 64 i := by
  have h1 : (2 : Nat) ^ i < 18446744073709551616 := by
    have : (2 : Nat) ^ i < 2 ^ 64 := Nat.pow_lt_pow_right (by omega) h
    simpa using this
  have h2 : IntKind.u64.wrap (2 ^ i) = ((2 ^ i : Nat) : Int) := by
    rw [← wrap_nat _ h1]; simp
  rw [h2, BitVec.ofInt_natCast]
  apply BitVec.eq_of_toNat_eq
  rw [BitVec.toNat_twoPow, BitVec.toNat_ofNat]

theorem bitAt_eq (x : Int) (i : Nat) (h : i < 64) : bitAt x i = (BitVec.ofInt 64 x).getLsbD i := by
  unfold bitAt bits
  show (IntKind.u64.wrap ((BitVec.ofInt 64 x &&& BitVec.ofInt 64 (IntKind.u64.wrap (2 ^ i))).toNat : Int) != 0) = _
  rw [ofInt_pow i h, wrap_nat _ (BitVec.isLt _), BitVec.and_twoPow]
  cases hb : (BitVec.ofInt 64 x).getLsbD i with
  | true =>
    have h1 : (2 : Nat) ^ i < 2 ^ 64 := Nat.pow_lt_pow_right (by omega) h
    have h2 : 0 < (2 : Nat) ^ i := Nat.pow_pos (by omega)
    simp only [if_true, BitVec.toNat_twoPow, Nat.mod_eq_of_lt h1]
    rw [bne_iff_ne]
    omega
  | false => simp

theorem ofInt_setAt (x : Int) (i : Nat) (h : i < 64) : BitVec.ofInt 64 (setAt x i) = BitVec.ofInt 64 x ||| BitVec.twoPow 64 i := by
  unfold setAt bits
  show BitVec.ofInt 64 (IntKind.u64.wrap ((BitVec.ofInt 64 x ||| BitVec.ofInt 64 (IntKind.u64.wrap (2 ^ i))).toNat : Int)) = _
  rw [ofInt_pow i h, wrap_nat _ (BitVec.isLt _), BitVec.ofInt_natCast, BitVec.ofNat_toNat, BitVec.setWidth_eq]

theorem bitAt_setAt (x : Int) (i j : Nat) (hi : i < 64) (hj : j < 64) : bitAt (setAt x i) j = (bitAt x j || decide (i = j)) := by
  rw [bitAt_eq _ _ hj, bitAt_eq _ _ hj, ofInt_setAt _ _ hi, BitVec.getLsbD_or, BitVec.getLsbD_twoPow]
  simp [hj, hi]

theorem bitAt_zero (j : Nat) (hj : j < 64) : bitAt 0 j = false := by
  rw [bitAt_eq _ _ hj]; simp

/-! ### where a number's slot lies -/
def slotI (W : Nat) (n : Int) : Int := IntKind.u64.wrap (n % 4294967296 * 2654435769 % 4294967296 * (64 * W)) / 4294967296 % 4294967296
def slotOf (W : Nat) (n : Int) : Nat := (slotI W n).toNat

theorem slot_spec (W : Nat) (n : Int) (h0 : 0 < W) (h1 : W ≤ 64) : slotI W n = slotOf W n ∧ slotOf W n < 64 * W := by
  have ha : 0 ≤ n % 4294967296 * 2654435769 % 4294967296 := Int.emod_nonneg _ (by omega)
  have hb : n % 4294967296 * 2654435769 % 4294967296 < 4294967296 := Int.emod_lt_of_pos _ (by omega)
  unfold slotOf slotI
  generalize n % 4294967296 * 2654435769 % 4294967296 = h at ha hb
  have hc : (0 : Int) < 64 * (W : Int) := by omega
  have hd : h * (64 * (W : Int)) < 4294967296 * (64 * (W : Int)) := Int.mul_lt_mul_of_pos_right hb hc
  have he : 0 ≤ h * (64 * (W : Int)) := Int.mul_nonneg ha (by omega)
  have hw : IntKind.u64.wrap (h * (64 * (W : Int))) = h * (64 * (W : Int)) := by
    obtain ⟨k, hk⟩ := Int.eq_ofNat_of_zero_le he
    rw [hk]; exact wrap_nat k (by omega)
  rw [hw]
  have hq0 : 0 ≤ h * (64 * (W : Int)) / 4294967296 := Int.ediv_nonneg he (by omega)
  have hq1 : h * (64 * (W : Int)) / 4294967296 < 64 * (W : Int) := Int.ediv_lt_of_lt_mul (by omega) (by rw [Int.mul_comm (64 * (W : Int))]; exact hd)
  generalize h * (64 * (W : Int)) / 4294967296 = q at hq0 hq1
  omega

set_option maxHeartbeats 400000 in
theorem slot_any (a : Option Addr) (W cap : Nat) (n : Int) (w : World) (h0 : 0 < W) (hW : W ≤ 64) :
    Calls Try.prog 33 #[.slice a W cap, .int .i32 n] w fun e w' => e = .returned (.int .u32 (slotOf W n)) ∧ w' = w := by
  have E : Hid (slotI W n = slotOf W n) := (slot_spec W n h0 hW).1
  go_enter Try.func33, Try.ntmps33
  go_wp2
  go_ret
  refine ⟨?_, rfl⟩
  rw [← E.out]; rfl

theorem zslot_any (a : Option Addr) (W cap : Nat) (n : Int) (w : World) (h0 : 0 < W) (hW : W ≤ 64) :
    Calls Try.prog 31 #[.slice a W cap, .int .i32 n] w fun e w' => e = .returned (.int .u32 (slotOf W n)) ∧ w' = w := by
  go_enter Try.func31, Try.ntmps31
  go_wp2_with (go_at_call 33; refine (slot_any _ _ _ _ _ h0 hW).mono ?_; rintro e w' ⟨rfl, rfl⟩)
  go_ret
  exact ⟨rfl, rfl⟩

/-- A filter in memory: W words, the bit of slot s set where B s says. -/
def FiltAt (w : World) (a : Option Addr) (W : Nat) (B : Nat → Bool) : Prop :=
  ∃ F : Nat → Int, RowAt w a W (fun j => .int .u64 (F j)) ∧ ∀ s, s < 64 * W → bitAt (F (s / 64)) (s % 64) = B s
theorem FiltAt.below {w w' : World} {a : Option Addr} {W : Nat} {B : Nat → Bool} (h : FiltAt w a W B) (hb : Below w.heap.size w w') : FiltAt w' a W B := by
  obtain ⟨F, h1, h2⟩ := h
  exact ⟨F, h1.below hb, h2⟩
theorem FiltAt.drewN {w : World} {a : Option Addr} {W : Nat} {B : Nat → Bool} (h : FiltAt w a W B) (q : Nat) : FiltAt (w.drewN q) a W B := by
  obtain ⟨F, h1, h2⟩ := h
  exact ⟨F, h1.drewN q, h2⟩

set_option maxHeartbeats 400000 in
theorem passes_any (a : Option Addr) (W cap : Nat) (n : Int) (B : Nat → Bool) (w : World) (h0 : 0 < W) (hW : W ≤ 64) (h : FiltAt w a W B) :
    Calls Try.prog 35 #[.slice a W cap, .int .i32 n] w fun e w' => e = .returned (.bool (B (slotOf W n))) ∧ w' = w := by
  obtain ⟨F, ⟨b, off, ha, hc⟩, hB⟩ := h
  obtain rfl := ha h0
  obtain ⟨s, hs⟩ : ∃ s, s = slotOf W n := ⟨_, rfl⟩
  have hlt : s < 64 * W := by rw [hs]; exact (slot_spec W n h0 hW).2
  have HC : Hid (∀ w, Calls Try.prog 33 #[.slice (some ⟨b, off, none⟩) W cap, .int .i32 n] w fun e w' => e = .returned (.int .u32 s) ∧ w' = w) := fun w => by rw [hs]; exact slot_any _ _ _ _ _ h0 hW
  rw [← hs]
  clear hs ha
  have c1 : w.cell? ⟨b, off + s / 64, none⟩ = some (.int .u64 (F (s / 64))) := hc _ (by omega)
  have HB : Hid (bitAt (F (s / 64)) (s % 64) = B s) := hB s hlt
  clear hc hB
  go_enter Try.func35, Try.ntmps35
  go_wp2_with (go_at_call 33; refine (HC.out _).mono ?_; rintro e w' ⟨rfl, rfl⟩)
  go_ret
  exact ⟨ret_bool HB.out, rfl⟩

set_option maxHeartbeats 400000 in
theorem mark_any (b W cap : Nat) (n : Int) (F : Nat → Int) (w : World) (h0 : 0 < W) (hW : W ≤ 64) (h : w.rowIs b 45 W (fun j => .int .u64 (F j))) :
    Calls Try.prog 19 #[.slice (some ⟨b, 0, none⟩) W cap, .int .i32 n] w fun e w' => e = .returned (.tuple #[]) ∧
      w' = w.setCell ⟨b, slotOf W n / 64, none⟩ (.int .u64 (setAt (F (slotOf W n / 64)) (slotOf W n % 64))) := by
  obtain ⟨s, hs⟩ : ∃ s, s = slotOf W n := ⟨_, rfl⟩
  have hlt : s < 64 * W := by rw [hs]; exact (slot_spec W n h0 hW).2
  have HC : Hid (∀ w, Calls Try.prog 31 #[.slice (some ⟨b, 0, none⟩) W cap, .int .i32 n] w fun e w' => e = .returned (.int .u32 s) ∧ w' = w) := fun w => by rw [hs]; exact zslot_any _ _ _ _ _ h0 hW
  rw [← hs]
  clear hs
  have c1 : w.cell? ⟨b, s / 64, none⟩ = some (.int .u64 (F (s / 64))) := h.cell (by omega)
  have c2 : w.frozen? ⟨b, s / 64, none⟩ = false := h.frozen _
  clear h
  go_enter Try.func19, Try.ntmps19
  go_wp2_with (go_at_call 31; refine (HC.out _).mono ?_; rintro e w' ⟨rfl, rfl⟩)
  go_end0
  exact ⟨rfl, rfl⟩
end Go.Proofs.Qxb6618426a
