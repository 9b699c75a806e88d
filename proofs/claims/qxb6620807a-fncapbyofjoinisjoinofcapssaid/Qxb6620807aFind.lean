import Derived.Test.Qxb6620807aLeaf
import Derived.Deep.Heap
namespace Go.Proofs.Qxb6620807a
open Go.RowKit
set_option linter.unusedVariables false

/-- zzFind's answer. -/
def Finds (n : Nat) (S : Nat → ByteArray) (a : ByteArray) (w w' : World) (e : Ending) : Prop :=
  ∃ p : Int, e = .returned (.int .i64 p) ∧ ((∃ i : Nat, p = i ∧ i < n ∧ (S i).toList = a.toList) ∨ (p = -1 ∧ ∀ i, i < n → (S i).toList ≠ a.toList)) ∧ Below w.heap.size w w'

theorem RowAt.now {w : World} {a : Option Addr} {n : Nat} {f : Nat → Value} (h : RowAt w a n f) {w' : World} (hb : Below w.heap.size w w') : RowAt w' a n f := h.below (Nat.le_refl _) hb

/-- A struct of three cells that was boxed. -/
structure Box3 (w w1 : World) (x y z : Value) : Prop where
  below : Below w.heap.size w w1
  c0 : w1.cell? ⟨w.heap.size, 0, none⟩ = some x
  c1 : w1.cell? ⟨w.heap.size, 1, none⟩ = some y
  c2 : w1.cell? ⟨w.heap.size, 2, none⟩ = some z
  lt : w.heap.size < w1.heap.size

theorem box3 (w : World) (x y z : Value) (t : TypeId) (q : Nat) : Box3 w ((w.alloc (.cells #[x, y, z] t)).drewN q) x y z := by
  refine ⟨below_drewN ((Below.refl _ _).alloc (Nat.le_refl _) _) q, ?_, ?_, ?_, ?_⟩
  · show (w.alloc _).cell? _ = _; simp
  · show (w.alloc _).cell? _ = _; simp
  · show (w.alloc _).cell? _ = _; simp
  · show _ < (w.alloc _).heap.size; rw [Go.Deep.nblk_alloc]; omega

/-- Where a search through ascending strings ends. -/
theorem find_done {n : Nat} {S : Nat → ByteArray} {a : ByteArray} (mono : ∀ i j, i < j → j < n → slt (S i).toList (S j).toList) {p : Nat}
    (h : Split n (fun j => slt (S j).toList a.toList) p p) (hne : p < n → (S p).toList ≠ a.toList) : ∀ i, i < n → (S i).toList ≠ a.toList := by
  intro i hi e
  by_cases h1 : i < p
  · have := h.1 i h1; simp only [e] at this; exact slt_irrefl _ this
  · by_cases h2 : i = p
    · subst h2; exact hne hi e
    · have h3 := mono p i (by omega) hi
      have h4 := h.2 p (Nat.le_refl _) (by omega)
      rw [e] at h3; exact h4 h3

set_option maxHeartbeats 1000000 in
theorem find_any (a1 a2 a3 : Option Addr) (n c1 n2 c2 n3 c3 : Nat) (S : Nat → ByteArray) (a : ByteArray) (w : World) (hn : n ≤ 16777216)
    (mono : ∀ i j, i < j → j < n → slt (S i).toList (S j).toList) (h : RowAt w a1 n (fun j => .string (S j))) :
    Calls Try.prog 40 #[.agg #[.slice a1 n c1, .slice a2 n2 c2, .slice a3 n3 c3], .string a] w (fun e w' => Finds n S a w w' e) := by
  have HD : Hid (∀ p, Split n (fun j => slt (S j).toList a.toList) p p → (p < n → (S p).toList ≠ a.toList) → ∀ i, i < n → (S i).toList ≠ a.toList) := fun p => find_done mono
  have HM : Hid (∀ i j, i < j → j < n → slt (S j).toList a.toList → slt (S i).toList a.toList) := fun i j h1 h2 h3 => slt_trans (mono i j h1 h2) h3
  clear mono
  go_enter Try.func40, Try.ntmps40
  go_wp2
  go_quiet (fail)
  have B := box3 w (.slice a1 n c1) (.slice a2 n2 c2) (.slice a3 n3 c3) 30 nq
  generalize (w.alloc (Obj.cells #[Value.slice a1 n c1, Value.slice a2 n2 c2, Value.slice a3 n3 c3] 30)).drewN nq = w1 at *
  obtain ⟨hbel, k0, k1, k2, k3⟩ := B
  obtain ⟨b, off, ha, hc⟩ := h.now hbel
  clear h k1 k2
  go_wp2
  go_loop [5, 6] (fun lo hi => ∃ l h : Nat, l ≤ h ∧ h ≤ n ∧ lo = .int .i64 l ∧ hi = .int .i64 h ∧ Hid (Split n (fun j => slt (S j).toList a.toList) l h)) (fun lo hi => (intOf hi).toNat - (intOf lo).toNat)
  case atStart => exact ⟨0, n, by omega, by omega, rfl, rfl, ⟨fun j hj => absurd hj (by omega), fun j h1 h2 => absurd h2 (by omega)⟩⟩
  case round =>
    obtain ⟨l, h, hlh, hh, rfl, rfl, HX⟩ := hrel
    by_cases hlt : l < h
    · obtain rfl := ha (by omega)
      have c1 := hc (l + (h - l) / 2) (by omega)
      clear hc
      cases hq : Op.bytesLess (S (l + (h - l) / 2)).toList a.toList with
      | true =>
        go_wp2
        go_round
        case rel => exact ⟨l + (h - l) / 2 + 1, h, by omega, hh, by go_num, rfl, split_up HX.out HM.out (by omega) hq⟩
        case measure => simp only [intOf]; omega
      | false =>
        go_wp2
        go_round
        case rel => exact ⟨l, l + (h - l) / 2, by omega, by omega, rfl, by go_num, split_down HX.out HM.out (by unfold slt; rw [hq]; simp)⟩
        case measure => simp only [intOf]; omega
    · obtain rfl : l = h := by omega
      by_cases hl : l < n
      · obtain rfl := ha (by omega)
        have c1 := hc l hl
        clear hc
        cases hq : ((S l).toList == a.toList) with
        | true =>
          go_wp2_with fail
          go_ret
          exact ⟨l, rfl, Or.inl ⟨l, rfl, hl, by simpa using hq⟩, hbel⟩
        | false =>
          have HE := HD.out l HX.out (fun _ => by simpa using hq)
          have HE : Hid (∀ i, i < n → (S i).toList ≠ a.toList) := HE
          go_wp2_with fail
          go_ret
          exact ⟨-1, rfl, Or.inr ⟨rfl, HE.out⟩, hbel⟩
      · clear hc
        have HE : Hid (∀ i, i < n → (S i).toList ≠ a.toList) := HD.out l HX.out (fun h => absurd h hl)
        go_wp2_with fail
        go_ret
        exact ⟨-1, rfl, Or.inr ⟨rfl, HE.out⟩, hbel⟩
end Go.Proofs.Qxb6620807a
