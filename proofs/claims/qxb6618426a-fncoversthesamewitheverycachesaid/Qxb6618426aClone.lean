import Derived.Test.Qxb6618426aModel
import Derived.Deep.OwnRows
import Derived.WalkSmall
namespace Go.Proofs.Qxb6618426a
open Go.RowKit

theorem Try.info21 : (Try.prog.info? 21).map (fun i => (i.zero, i.size, i.bytes)) = some (some (.int .i32 0), 1, 4) := by kernel_rfl
theorem Try.info24 : (Try.prog.info? 24).map (fun i => (i.zero, i.size, i.bytes)) = some (some (.slice none 0 0), 1, 24) := by kernel_rfl
theorem Try.info9 : (Try.prog.info? 9).map (fun i => (i.zero, i.size, i.bytes)) = some (some (.string ByteArray.empty), 1, 16) := by kernel_rfl

theorem RowAt.below {w w' : World} {a : Option Addr} {n : Nat} {f : Nat → Value} (h : RowAt w a n f) (hb : Below w.heap.size w w') : RowAt w' a n f := by
  obtain ⟨b, off, ha, hc⟩ := h
  refine ⟨b, off, ha, fun j hj => ?_⟩
  rw [← hc j hj]
  exact hb.cell (World.block_lt_of_cell? _ _ (hc j hj))

theorem rowAt_of_rowIs {w : World} {b : Nat} {t : TypeId} {n : Nat} {f : Nat → Value} (h : w.rowIs b t n f) : RowAt w (some ⟨b, 0, none⟩) n f :=
  ⟨b, 0, fun _ => rfl, fun j hj => by rw [Nat.zero_add]; exact h.cell hj⟩

/-- A loop that fills a new row: k cells are filled. -/
structure Filling (w wr : World) (t : TypeId) (n : Nat) (z : Value) (f : Nat → Value) (k : Nat) : Prop where
  below : Below w.heap.size w wr
  size : wr.heap.size = w.heap.size + 1
  row : wr.rowIs w.heap.size t n (fun j => if j < k then f j else z)

theorem Filling.start (w : World) (t : TypeId) (n : Nat) (z : Value) (f : Nat → Value) : Filling w (w.alloc (.cells (madeCells #[z] n) t)) t n z f 0 :=
  ⟨(Below.refl _ _).alloc (Nat.le_refl _) _, by simp, (World.rowIs_made w z n t).congr (fun j _ => by simp)⟩

theorem Filling.next {w wr : World} {t : TypeId} {n : Nat} {z : Value} {f : Nat → Value} {k : Nat} (h : Filling w wr t n z f k) :
    Filling w (wr.setCell ⟨w.heap.size, k, none⟩ (f k)) t n z f (k + 1) :=
  ⟨h.below.setCell (Nat.le_refl _) _, by simp [World.setCell, h.size], (h.row.set k (f k)).congr (fun j _ => by
    by_cases e : j = k
    · subst e; simp
    · rw [if_neg e]
      by_cases hl : j < k
      · rw [if_pos hl, if_pos (by omega)]
      · rw [if_neg hl, if_neg (by omega)])⟩

theorem Filling.done {w wr : World} {t : TypeId} {n : Nat} {z : Value} {f : Nat → Value} (h : Filling w wr t n z f n) : RowAt wr (some ⟨w.heap.size, 0, none⟩) n f :=
  rowAt_of_rowIs (h.row.congr (fun j hj => by rw [if_pos hj]))

/-- What a clone hands back. -/
def Cloned (w w' : World) (n : Nat) (f : Nat → Value) (e : Ending) : Prop := ∃ a cap, e = .returned (.slice a n cap) ∧ RowAt w' a n f ∧ Below w.heap.size w w' ∧ n ≤ cap

set_option maxHeartbeats 400000 in
theorem cloneInts_any (a : Option Addr) (n cap : Nat) (f : Nat → Int) (w : World) (hn : n ≤ 1048576) (h0 : a = none → n = 0) (h : RowAt w a n (fun j => .int .i32 (f j))) :
    Calls Try.prog 12 #[.slice a n cap] w fun e w' => Cloned w w' n (fun j => .int .i32 (f j)) e := by
  cases a with
  | none =>
    obtain rfl := h0 rfl
    have hnil := fun w => Lib.run_eql_slice_nil (P := Try.prog) w 24 21 none 0 cap 0 0 Try.underlying24
    go_enter Try.func12, Try.ntmps12
    go_wp2
    go_ret
    exact ⟨none, 0, rfl, h, Below.refl _ _, Nat.le_refl _⟩
  | some ad =>
    have hnil := fun w => Lib.run_eql_slice_nil (P := Try.prog) w 24 21 (some ad) n cap 0 0 Try.underlying24
    have hmk := run_make_row' (P := Try.prog) 24 21 (.int .i32 0) 4 Try.underlying24 Try.info21 rfl .i64 .i64 n (by omega) (by omega)
    obtain ⟨b, off, ha, hc⟩ := h
    go_enter Try.func12, Try.ntmps12
    go_wp2
    clear hmk hnil
    go_loopw [4] (fun i wr => ∃ k : Nat, k ≤ n ∧ i = .int .i64 k ∧ Filling w wr 21 n (.int .i32 0) (fun j => .int .i32 (f j)) k) (fun i _ => n - (intOf i).toNat)
    case atStart => exact ⟨0, by omega, rfl, Filling.start _ _ _ _ _⟩
    case round =>
      obtain ⟨k, hk, rfl, HF⟩ := hrel
      by_cases hlt : k < n
      · have e := ha (by omega)
        simp only [Option.some.injEq] at e
        subst e
        have c1 : wr.cell? ⟨b, off + k, none⟩ = some (.int .i32 (f k)) := by
          rw [HF.below.cell (p := ⟨b, off + k, none⟩) (World.block_lt_of_cell? _ _ (hc k hlt))]; exact hc k hlt
        have c2 : wr.cell? ⟨w.heap.size, k, none⟩ = some (.int .i32 0) := by simpa using HF.row.cell hlt
        have c3 : wr.frozen? ⟨w.heap.size, k, none⟩ = false := HF.row.frozen k
        clear hc
        go_wp2
        go_roundw
        case rel => exact ⟨k + 1, by omega, by go_num, HF.next⟩
        case measure => simp only [intOf]; omega
      · obtain rfl : k = n := by omega
        clear hc
        go_wp2
        go_ret
        exact ⟨_, _, rfl, HF.done, HF.below, Nat.le_refl _⟩
end Go.Proofs.Qxb6618426a
