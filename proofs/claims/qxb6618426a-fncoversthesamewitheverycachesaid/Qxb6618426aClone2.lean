import Derived.Test.Qxb6618426aClone
namespace Go.Proofs.Qxb6618426a
open Go.RowKit

set_option maxHeartbeats 400000 in
theorem cloneStrs_any (a : Option Addr) (n cap : Nat) (f : Nat → ByteArray) (w : World) (hn : n ≤ 1048576) (h0 : a = none → n = 0) (h : RowAt w a n (fun j => .string (f j))) :
    Calls Try.prog 14 #[.slice a n cap] w fun e w' => Cloned w w' n (fun j => .string (f j)) e := by
  cases a with
  | none =>
    obtain rfl := h0 rfl
    have hnil := fun w => Lib.run_eql_slice_nil (P := Try.prog) w 25 9 none 0 cap 0 0 Try.underlying25
    go_enter Try.func14, Try.ntmps14
    go_wp2
    go_ret
    exact ⟨none, 0, rfl, h, Below.refl _ _, Nat.le_refl _⟩
  | some ad =>
    have hnil := fun w => Lib.run_eql_slice_nil (P := Try.prog) w 25 9 (some ad) n cap 0 0 Try.underlying25
    have hmk := run_make_row' (P := Try.prog) 25 9 (.string ByteArray.empty) 16 Try.underlying25 Try.info9 rfl .i64 .i64 n (by omega) (by omega)
    obtain ⟨b, off, ha, hc⟩ := h
    go_enter Try.func14, Try.ntmps14
    go_wp2
    clear hmk hnil
    go_loopw [4] (fun i wr => ∃ k : Nat, k ≤ n ∧ i = .int .i64 k ∧ Filling w wr 9 n (.string ByteArray.empty) (fun j => .string (f j)) k) (fun i _ => n - (intOf i).toNat)
    case atStart => exact ⟨0, by omega, rfl, Filling.start _ _ _ _ _⟩
    case round =>
      obtain ⟨k, hk, rfl, HF⟩ := hrel
      by_cases hlt : k < n
      · have e := ha (by omega)
        simp only [Option.some.injEq] at e
        subst e
        have c1 : wr.cell? ⟨b, off + k, none⟩ = some (.string (f k)) := by
          rw [HF.below.cell (p := ⟨b, off + k, none⟩) (World.block_lt_of_cell? _ _ (hc k hlt))]; exact hc k hlt
        have c2 : wr.cell? ⟨w.heap.size, k, none⟩ = some (.string ByteArray.empty) := by simpa using HF.row.cell hlt
        have c3 : wr.frozen? ⟨w.heap.size, k, none⟩ = false := HF.row.frozen k
        clear hc
        go_wp2
        go_roundw
        case rel => exact ⟨k + 1, by omega, by go_num, HF.next⟩
        case measure => simp only [intOf]; omega
      · obtain rfl : k = n := by omega
        clear hc
        go_wp2
        go_ret
        exact ⟨_, _, rfl, HF.done, HF.below, Nat.le_refl _⟩

/-- A row of numbers does not lie in a row of slices: a store there leaves it alone. -/
theorem RowAt.storeElse {w : World} {a : Option Addr} {n : Nat} {g : Nat → Int} (h : RowAt w a n (fun j => .int .i32 (g j))) {B : Nat} {t : TypeId} {E : Nat} {F : Nat → Value}
    (hr : w.rowIs B t E F) (hF : ∀ j, j < E → ∀ x, F j ≠ .int .i32 x) (k : Nat) (v : Value) : RowAt (w.setCell ⟨B, k, none⟩ v) a n (fun j => .int .i32 (g j)) := by
  obtain ⟨b, off, ha, hc⟩ := h
  refine ⟨b, off, ha, fun j hj => ?_⟩
  by_cases e : b = B
  · exfalso
    subst e
    have h1 := hc j hj
    obtain ⟨c, hb, hn, hcc⟩ := hr
    have h2 : w.cell? ⟨b, off + j, none⟩ = c[off + j]? := by simp [World.cell?, hb]
    rw [h2] at h1
    by_cases hl : off + j < E
    · rw [hcc _ hl] at h1
      simp only [Option.some.injEq] at h1
      exact hF _ hl _ h1
    · rw [Array.getElem?_eq_none (by omega)] at h1
      cases h1
  · rw [World.cell?_setCell_other _ _ _ _ (fun h => e (congrArg Addr.block h).symm)]
    exact hc j hj

/-- Rows cloned so far. -/
structure FillL (w wr : World) (E : Nat) (la : Nat → Option Addr) (ln lc : Nat → Nat) (lf : Nat → Nat → Int) (k : Nat) : Prop where
  below : Below w.heap.size w wr
  row : wr.rowIs w.heap.size 24 E (fun j => if j < k then .slice (la j) (ln j) (lc j) else .slice none 0 0)
  rows : ∀ j, j < k → RowAt wr (la j) (ln j) (fun i => .int .i32 (lf j i))

theorem FillL.start (w : World) (E : Nat) (la : Nat → Option Addr) (ln lc : Nat → Nat) (lf : Nat → Nat → Int) : FillL w (w.alloc (.cells (madeCells #[.slice none 0 0] E) 24)) E la ln lc lf 0 :=
  ⟨(Below.refl _ _).alloc (Nat.le_refl _) _, (World.rowIs_made w _ E 24).congr (fun j _ => by simp), fun j hj => by omega⟩

theorem FillL.next {w wr w1 : World} {E : Nat} {la : Nat → Option Addr} {ln lc : Nat → Nat} {lf : Nat → Nat → Int} {k : Nat} (h : FillL w wr E la ln lc lf k)
    (hb : Below wr.heap.size wr w1) {a : Option Addr} {cap : Nat} (hr : RowAt w1 a (ln k) (fun i => .int .i32 (lf k i))) :
    ∃ la' lc', FillL w (w1.setCell ⟨w.heap.size, k, none⟩ (.slice a (ln k) cap)) E la' ln lc' lf (k + 1) := by
  have hlt := h.row.lt
  have hrow : w1.rowIs w.heap.size 24 E (fun j => if j < k then .slice (la j) (ln j) (lc j) else .slice none 0 0) := h.row.of_block (hb.block _ hlt)
  have hF : ∀ j, j < E → ∀ x, (if j < k then (.slice (la j) (ln j) (lc j) : Value) else .slice none 0 0) ≠ .int .i32 x := by
    intro j _ x; split <;> simp
  refine ⟨fun j => if j = k then a else la j, fun j => if j = k then cap else lc j, (h.below.trans (hb.mono h.below.size)).setCell (Nat.le_refl _) _, (hrow.set k _).congr (fun j _ => ?_), fun j hj => ?_⟩
  · by_cases e : j = k
    · subst e; simp
    · rw [if_neg e]
      by_cases hl : j < k
      · rw [if_pos hl, if_pos (by omega)]; simp [e]
      · rw [if_neg hl, if_neg (by omega)]
  · by_cases e : j = k
    · subst e; simp only [if_true]; exact hr.storeElse hrow hF _ _
    · simp only [if_neg e]; exact ((h.rows j (by omega)).below hb).storeElse hrow hF _ _

/-- What the clone of a list of lists hands back. -/
def ClonedL (w w' : World) (E : Nat) (ln : Nat → Nat) (lf : Nat → Nat → Int) (e : Ending) : Prop := ∃ a cap la lc, e = .returned (.slice a E cap) ∧ ListsAt w' a E la ln lc lf ∧ Below w.heap.size w w'

set_option maxHeartbeats 400000 in
theorem cloneLists_any (a : Option Addr) (E cap : Nat) (la : Nat → Option Addr) (ln lc : Nat → Nat) (lf : Nat → Nat → Int) (w : World) (hE : E ≤ 1048576) (hL : ∀ i, i < E → ln i ≤ 1048576) (h0 : a = none → E = 0)
    (hl0 : ∀ i, i < E → la i = none → ln i = 0) (h : ListsAt w a E la ln lc lf) :
    Calls Try.prog 10 #[.slice a E cap] w fun e w' => ClonedL w w' E ln lf e := by
  cases a with
  | none =>
    obtain rfl := h0 rfl
    have hnil := fun w => Lib.run_eql_slice_nil (P := Try.prog) w 23 24 none 0 cap 0 0 Try.underlying23
    go_enter Try.func10, Try.ntmps10
    go_wp2
    go_ret
    exact ⟨none, 0, la, lc, rfl, h, Below.refl _ _⟩
  | some ad =>
    have hnil := fun w => Lib.run_eql_slice_nil (P := Try.prog) w 23 24 (some ad) E cap 0 0 Try.underlying23
    have hmk := run_make_row' (P := Try.prog) 23 24 (.slice none 0 0) 24 Try.underlying23 Try.info24 rfl .i64 .i64 E (by omega) (by omega)
    obtain ⟨⟨b, off, ha, hc⟩, hrows⟩ := h
    go_enter Try.func10, Try.ntmps10
    go_wp2
    clear hmk hnil
    go_loopw [4] (fun i wr => ∃ k : Nat, k ≤ E ∧ i = .int .i64 k ∧ ∃ la' lc', FillL w wr E la' ln lc' lf k) (fun i _ => E - (intOf i).toNat)
    case atStart => exact ⟨0, by omega, rfl, la, lc, FillL.start _ _ _ _ _ _⟩
    case round =>
      obtain ⟨k, hk, rfl, la', lc', HF⟩ := hrel
      by_cases hlt : k < E
      · have e := ha (by omega)
        simp only [Option.some.injEq] at e
        subst e
        have c1 : wr.cell? ⟨b, off + k, none⟩ = some (.slice (la k) (ln k) (lc k)) := by
          rw [HF.below.cell (p := ⟨b, off + k, none⟩) (World.block_lt_of_cell? _ _ (hc k hlt))]; exact hc k hlt
        have r1 : RowAt wr (la k) (ln k) (fun j => .int .i32 (lf k j)) := (hrows k hlt).below HF.below
        have l1 := hL k hlt
        have z1 := hl0 k hlt
        have z1 : Hid (la k = none → ln k = 0) := z1
        have hlt' := HF.row.lt
        clear hc hrows hL hl0 ha
        go_wp2_with fail
        refine (cloneInts_any _ _ _ _ _ l1 z1.out r1).mono ?_
        rintro e w1 ⟨a1, cap1, rfl, hr1, hb1, _⟩
        have hrow1 := HF.row.of_block (hb1.block _ hlt')
        have c2 : w1.cell? ⟨w.heap.size, k, none⟩ = some (.slice none 0 0) := by simpa using hrow1.cell hlt
        have c3 : w1.frozen? ⟨w.heap.size, k, none⟩ = false := hrow1.frozen k
        have HN := HF.next hb1 (cap := cap1) hr1
        clear hrow1 HF
        go_wp2
        go_roundw
        case rel => exact ⟨k + 1, by omega, by go_num, HN⟩
        case measure => simp only [intOf]; omega
      · obtain rfl : k = E := by omega
        clear hc hrows hL hl0
        go_wp2
        go_ret
        exact ⟨_, _, la', lc', rfl, ⟨rowAt_of_rowIs (HF.row.congr (fun j hj => by rw [if_pos hj])), HF.rows⟩, HF.below⟩
end Go.Proofs.Qxb6618426a
