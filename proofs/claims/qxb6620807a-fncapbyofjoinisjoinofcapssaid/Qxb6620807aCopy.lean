import Derived.Test.Qxb6620807aMake
namespace Go.Proofs.Qxb6620807a
open Go.RowKit
set_option linter.unusedVariables false

theorem Try.info41 : (Try.prog.info? 41).map (fun i => (i.zero, i.size, i.bytes)) = some (some (.int .u64 0), 1, 8) := by kernel_rfl
theorem Try.info9 : (Try.prog.info? 9).map (fun i => (i.zero, i.size, i.bytes)) = some (some (.string ByteArray.empty), 1, 16) := by kernel_rfl
theorem Try.info23 : (Try.prog.info? 23).map (fun i => (i.zero, i.size, i.bytes)) = some (some (.slice none 0 0), 1, 24) := by kernel_rfl

/-- A row in a block from B on. -/
def RowFrom (B : Nat) (w : World) (a : Option Addr) (n : Nat) (f : Nat → Value) : Prop :=
  ∃ b off, B ≤ b ∧ (0 < n → a = some ⟨b, off, none⟩) ∧ ∀ j, j < n → w.cell? ⟨b, off + j, none⟩ = some (f j)
theorem RowFrom.at {B : Nat} {w : World} {a : Option Addr} {n : Nat} {f : Nat → Value} (h : RowFrom B w a n f) : RowAt w a n f := by
  obtain ⟨b, off, _, h1, h2⟩ := h; exact ⟨b, off, h1, h2⟩
theorem RowFrom.mono {B B' : Nat} {w : World} {a : Option Addr} {n : Nat} {f : Nat → Value} (h : RowFrom B w a n f) (hB : B' ≤ B) : RowFrom B' w a n f := by
  obtain ⟨b, off, h0, h1, h2⟩ := h; exact ⟨b, off, Nat.le_trans hB h0, h1, h2⟩
theorem RowFrom.now {B : Nat} {w w' : World} {a : Option Addr} {n : Nat} {f : Nat → Value} (h : RowFrom B w a n f) (hb : Below w.heap.size w w') : RowFrom B w' a n f := by
  obtain ⟨b, off, h0, h1, h2⟩ := h
  refine ⟨b, off, h0, h1, fun j hj => ?_⟩
  have := h2 j hj
  rw [hb.cell (p := ⟨b, off + j, none⟩) (World.block_lt_of_cell? _ _ this)]; exact this
theorem RowFrom.set {B : Nat} {w : World} {a : Option Addr} {n : Nat} {f : Nat → Value} (h : RowFrom B w a n f) {p : Addr} (hp : p.block < B) (u : Value) : RowFrom B (w.setCell p u) a n f := by
  obtain ⟨b, off, h0, h1, h2⟩ := h
  refine ⟨b, off, h0, h1, fun j hj => ?_⟩
  have hb : (w.setCell p u).heap[b]? = w.heap[b]? := Go.Deep.blk_setCell_other _ _ _ _ (by omega)
  rw [World.cell?_of_block (w := w) (a := ⟨b, off + j, none⟩) hb]; exact h2 j hj
theorem RowFrom.nil (B : Nat) (w : World) (a : Option Addr) (f : Nat → Value) : RowFrom B w a 0 f := ⟨B, 0, Nat.le_refl _, fun h => absurd h (by omega), fun j hj => absurd hj (by omega)⟩

theorem rowFrom_of_rowIs {w : World} {b : Nat} {t : TypeId} {n : Nat} {f : Nat → Value} (h : w.rowIs b t n f) {B : Nat} (hB : B ≤ b) : RowFrom B w (some ⟨b, 0, none⟩) n f :=
  ⟨b, 0, hB, fun _ => rfl, fun j hj => by rw [Nat.zero_add]; exact h.cell hj⟩

/-- A row of one's own, at block g, that is being filled; blocks ahead of it stay. -/
structure Filling (g : Nat) (w wr : World) (t : TypeId) (n : Nat) (z : Value) (f : Nat → Value) (k : Nat) : Prop where
  below : Below g w wr
  row : wr.rowIs g t n (fun j => if j < k then f j else z)

theorem Filling.start (w : World) (t : TypeId) (n : Nat) (z : Value) (f : Nat → Value) : Filling w.heap.size w (w.alloc (.cells (madeCells #[z] n) t)) t n z f 0 :=
  ⟨(Below.refl _ _).alloc (Nat.le_refl _) _, (World.rowIs_made w z n t).congr (fun j _ => by simp)⟩

theorem Filling.next {g : Nat} {w wr : World} {t : TypeId} {n : Nat} {z : Value} {f : Nat → Value} {k : Nat} (h : Filling g w wr t n z f k) {u : Value} (hu : u = f k) :
    Filling g w (wr.setCell ⟨g, k, none⟩ u) t n z f (k + 1) :=
  ⟨h.below.setCell (Nat.le_refl _) _, (h.row.set k u).congr (fun j _ => by
    by_cases e : j = k
    · subst e; simp [hu]
    · rw [if_neg e]
      by_cases hl : j < k
      · rw [if_pos hl, if_pos (by omega)]
      · rw [if_neg hl, if_neg (by omega)])⟩

theorem Filling.done {g : Nat} {w wr : World} {t : TypeId} {n : Nat} {z : Value} {f : Nat → Value} (h : Filling g w wr t n z f n) {B : Nat} (hB : B ≤ g) : RowFrom B wr (some ⟨g, 0, none⟩) n f :=
  rowFrom_of_rowIs (h.row.congr (fun j hj => by rw [if_pos hj])) hB

/-- What a copy hands back. -/
def Copied (w w' : World) (n : Nat) (f : Nat → Value) (e : Ending) : Prop := ∃ a, e = .returned (.slice a n n) ∧ RowFrom w.heap.size w' a n f ∧ (a = none → n = 0) ∧ Below w.heap.size w w'

set_option maxHeartbeats 400000 in
theorem copyU_f (a : Option Addr) (n cap : Nat) (f : Nat → Int) (w : World) (hn : n ≤ 16777216) (h0 : a = none → n = 0) (h : RowAt w a n (fun j => .int .u64 (f j))) :
    Calls Try.prog 25 #[.slice a n cap] w fun e w' => Copied w w' n (fun j => .int .u64 (f j)) e := by
  cases a with
  | none =>
    obtain rfl := h0 rfl
    have hnil := fun w => Lib.run_eql_slice_nil (P := Try.prog) w 23 41 none 0 cap 0 0 Try.underlying23
    go_enter Try.func25, Try.ntmps25
    go_wp2
    go_ret
    exact ⟨none, rfl, RowFrom.nil _ _ _ _, fun _ => rfl, Below.refl _ _⟩
  | some ad =>
    have hnil := fun w => Lib.run_eql_slice_nil (P := Try.prog) w 23 41 (some ad) n cap 0 0 Try.underlying23
    have hmk := run_make_row' (P := Try.prog) 23 41 (.int .u64 0) 8 Try.underlying23 Try.info41 rfl .i64 .i64 n (by omega) (by omega)
    obtain ⟨b, off, ha, hc⟩ := h
    go_enter Try.func25, Try.ntmps25
    go_wp2
    clear hmk hnil
    go_loopw [4] (fun i wr => ∃ k : Nat, k ≤ n ∧ i = .int .i64 k ∧ Filling w.heap.size w wr 41 n (.int .u64 0) (fun j => .int .u64 (f j)) k) (fun i _ => n - (intOf i).toNat)
    case atStart => exact ⟨0, by omega, rfl, Filling.start _ _ _ _ _⟩
    case round =>
      obtain ⟨k, hk, rfl, HF⟩ := hrel
      by_cases hlt : k < n
      · have e := ha (by omega)
        simp only [Option.some.injEq] at e
        subst e
        have c1 : wr.cell? ⟨b, off + k, none⟩ = some (.int .u64 (f k)) := by
          rw [HF.below.cell (p := ⟨b, off + k, none⟩) (World.block_lt_of_cell? _ _ (hc k hlt))]; exact hc k hlt
        have c2 : wr.cell? ⟨w.heap.size, k, none⟩ = some (.int .u64 0) := by simpa using HF.row.cell hlt
        have c3 : wr.frozen? ⟨w.heap.size, k, none⟩ = false := HF.row.frozen k
        clear hc
        go_wp2
        go_roundw
        case rel => exact ⟨k + 1, by omega, by go_num, HF.next rfl⟩
        case measure => simp only [intOf]; omega
      · obtain rfl : k = n := by omega
        clear hc
        go_wp2
        go_ret
        exact ⟨_, rfl, HF.done (Nat.le_refl _), by simp, HF.below⟩
end Go.Proofs.Qxb6620807a
