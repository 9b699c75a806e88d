import Derived.Test.Qxb6620807aCopy
import Derived.Deep.RegionWith
import Derived.Deep.DeepCutAuto
namespace Go.Proofs.Qxb6620807a
open Go.RowKit
set_option linter.unusedVariables false

/-- A local variable of three cells. -/
structure Trip (w : World) (g : Nat) (x y z : Value) : Prop where
  c0 : w.cell? ⟨g, 0, none⟩ = some x
  c1 : w.cell? ⟨g, 1, none⟩ = some y
  c2 : w.cell? ⟨g, 2, none⟩ = some z
  fr : ∀ j, w.frozen? ⟨g, j, none⟩ = false
  lt : g < w.heap.size
theorem trip (w : World) (x y z : Value) (t : TypeId) : Trip (w.alloc (.cells #[x, y, z] t)) w.heap.size x y z := by
  refine ⟨by simp, by simp, by simp, fun j => by simp, by rw [Go.Deep.nblk_alloc]; omega⟩
theorem Trip.on {w w' : World} {g : Nat} {x y z : Value} (h : Trip w g x y z) {B : Nat} (hb : Below B w w') (hg : g < B) : Trip w' g x y z := by
  refine ⟨?_, ?_, ?_, fun j => ?_, Nat.lt_of_lt_of_le h.lt hb.size⟩
  · rw [hb.cell (p := ⟨g, 0, none⟩) hg]; exact h.c0
  · rw [hb.cell (p := ⟨g, 1, none⟩) hg]; exact h.c1
  · rw [hb.cell (p := ⟨g, 2, none⟩) hg]; exact h.c2
  · rw [hb.frozen (p := ⟨g, j, none⟩) hg]; exact h.fr j
theorem frozen_set {w : World} {p : Addr} {u : Value} (a : Addr) : (w.setCell p u).frozen? a = w.frozen? a := by simp
theorem size_set (w : World) (p : Addr) (u : Value) : (w.setCell p u).heap.size = w.heap.size := by simp [World.setCell]
theorem Trip.other {w : World} {g : Nat} {x y z : Value} (h : Trip w g x y z) {p : Addr} (hp : p.block ≠ g) (u : Value) : Trip (w.setCell p u) g x y z := by
  have hb : (w.setCell p u).heap[g]? = w.heap[g]? := Go.Deep.blk_setCell_other _ _ _ _ (fun e => hp e.symm)
  refine ⟨?_, ?_, ?_, fun j => ?_, by rw [size_set]; exact h.lt⟩
  · rw [World.cell?_of_block (w := w) (a := ⟨g, 0, none⟩) hb]; exact h.c0
  · rw [World.cell?_of_block (w := w) (a := ⟨g, 1, none⟩) hb]; exact h.c1
  · rw [World.cell?_of_block (w := w) (a := ⟨g, 2, none⟩) hb]; exact h.c2
  · rw [frozen_set]; exact h.fr j
theorem Trip.set0 {w : World} {g : Nat} {x y z : Value} (h : Trip w g x y z) (u : Value) : Trip (w.setCell ⟨g, 0, none⟩ u) g u y z := by
  refine ⟨World.cell?_setCell_same _ _ _ h.c0, ?_, ?_, fun j => by rw [frozen_set]; exact h.fr j, by rw [size_set]; exact h.lt⟩
  · rw [World.cell?_setCell_other _ _ _ _ (by simp)]; exact h.c1
  · rw [World.cell?_setCell_other _ _ _ _ (by simp)]; exact h.c2
theorem Trip.set1 {w : World} {g : Nat} {x y z : Value} (h : Trip w g x y z) (u : Value) : Trip (w.setCell ⟨g, 1, none⟩ u) g x u z := by
  refine ⟨?_, World.cell?_setCell_same _ _ _ h.c1, ?_, fun j => by rw [frozen_set]; exact h.fr j, by rw [size_set]; exact h.lt⟩
  · rw [World.cell?_setCell_other _ _ _ _ (by simp)]; exact h.c0
  · rw [World.cell?_setCell_other _ _ _ _ (by simp)]; exact h.c2
theorem Trip.set2 {w : World} {g : Nat} {x y z : Value} (h : Trip w g x y z) (u : Value) : Trip (w.setCell ⟨g, 2, none⟩ u) g x y u := by
  refine ⟨?_, ?_, World.cell?_setCell_same _ _ _ h.c2, fun j => by rw [frozen_set]; exact h.fr j, by rw [size_set]; exact h.lt⟩
  · rw [World.cell?_setCell_other _ _ _ _ (by simp)]; exact h.c0
  · rw [World.cell?_setCell_other _ _ _ _ (by simp)]; exact h.c1

/-- The copy of a context: rows of its own. -/
structure Copy3 (w w' : World) (a1 a2 a3 : Option Addr) (n n2 n3 : Nat) (S : Nat → ByteArray) (U : Nat → Int) (A : Nat → Option Addr) (L : Nat → Nat) (F : Nat → Nat → Int) : Prop where
  s : RowFrom w.heap.size w' a1 n (fun j => .string (S j))
  u : RowFrom w.heap.size w' a2 n2 (fun j => .int .u64 (U j))
  b : RowFrom w.heap.size w' a3 n3 (fun j => .slice (A j) (L j) (L j))
  f : ∀ j, j < n3 → RowFrom w.heap.size w' (A j) (L j) (fun k => .int .u64 (F j k))
def Copied3 (w w' : World) (n n2 n3 : Nat) (S : Nat → ByteArray) (U : Nat → Int) (L : Nat → Nat) (F : Nat → Nat → Int) (e : Ending) : Prop :=
  ∃ a1 a2 a3 A, e = .returned (.agg #[.slice a1 n n, .slice a2 n2 n2, .slice a3 n3 n3]) ∧ Copy3 w w' a1 a2 a3 n n2 n3 S U A L F ∧ Below w.heap.size w w'

theorem rowIs_below {w w' : World} {g : Nat} {t : TypeId} {n : Nat} {f : Nat → Value} (h : w.rowIs g t n f) {B : Nat} (hb : Below B w w') (hg : g < B) : w'.rowIs g t n f := by
  obtain ⟨c, h1, h2, h3⟩ := h
  exact ⟨c, by rw [hb.block g hg]; exact h1, h2, h3⟩
/-- A row of slices that is being filled with copies. -/
structure Fill2 (g : Nat) (w wr : World) (n : Nat) (A : Nat → Option Addr) (L : Nat → Nat) (F : Nat → Nat → Int) (k : Nat) : Prop where
  below : Below g w wr
  row : wr.rowIs g 23 n (fun j => if j < k then .slice (A j) (L j) (L j) else .slice none 0 0)
  rows : ∀ j, j < k → RowFrom (g + 1) wr (A j) (L j) (fun i => .int .u64 (F j i))
  lt : g < wr.heap.size
theorem Fill2.start (w : World) (n : Nat) (A : Nat → Option Addr) (L : Nat → Nat) (F : Nat → Nat → Int) : Fill2 w.heap.size w (w.alloc (.cells (madeCells #[.slice none 0 0] n) 23)) n A L F 0 :=
  ⟨(Below.refl _ _).alloc (Nat.le_refl _) _, (World.rowIs_made w _ n 23).congr (fun j _ => by simp), fun j hj => absurd hj (by omega), by rw [Go.Deep.nblk_alloc]; omega⟩
theorem Fill2.next {g : Nat} {w wr w' : World} {n : Nat} {A : Nat → Option Addr} {L : Nat → Nat} {F : Nat → Nat → Int} {k : Nat} {ak : Option Addr} (h : Fill2 g w wr n A L F k) (hb : Below wr.heap.size wr w')
    (rk : RowFrom wr.heap.size w' ak (L k) (fun i => .int .u64 (F k i))) : Fill2 g w (w'.setCell ⟨g, k, none⟩ (.slice ak (L k) (L k))) n (fun j => if j = k then ak else A j) L F (k + 1) := by
  have hlt := h.lt
  refine ⟨(h.below.trans (hb.mono (Nat.le_of_lt hlt))).setCell (Nat.le_refl _) _, ?_, ?_, ?_⟩
  · refine ((rowIs_below h.row hb hlt).set k _).congr (fun j _ => ?_)
    by_cases e : j = k
    · subst e; simp
    · rw [if_neg e]
      by_cases hl : j < k
      · rw [if_pos hl, if_pos (by omega), if_neg e]
      · rw [if_neg hl, if_neg (by omega)]
  · intro j hj
    by_cases e : j = k
    · subst e
      rw [if_pos rfl]
      exact (rk.mono hlt).set (by simp) _
    · rw [if_neg e]
      exact ((h.rows j (by omega)).now hb).set (by simp) _
  · rw [size_set]; exact Nat.lt_of_lt_of_le hlt hb.size

set_option maxRecDepth 100000 in
set_option maxHeartbeats 1000000 in
theorem copyCtx_f (a1 a2 a3 : Option Addr) (n n2 n3 c1 c2 c3 : Nat) (S : Nat → ByteArray) (U : Nat → Int) (A : Nat → Option Addr) (L C : Nat → Nat) (F : Nat → Nat → Int) (w : World)
    (hn : n ≤ 16777216) (hn2 : n2 ≤ 16777216) (hn3 : n3 ≤ 16777216) (hl : ∀ j, j < n3 → L j ≤ 16777216) (z1 : a1 = none → n = 0) (z2 : a2 = none → n2 = 0) (z3 : a3 = none → n3 = 0) (z4 : ∀ j, j < n3 → A j = none → L j = 0)
    (hs : RowAt w a1 n (fun j => .string (S j))) (hu : RowAt w a2 n2 (fun j => .int .u64 (U j))) (hb : RowAt w a3 n3 (fun j => .slice (A j) (L j) (C j))) (hf : ∀ j, j < n3 → RowAt w (A j) (L j) (fun k => .int .u64 (F j k))) :
    Calls Try.prog 12 #[.slice a1 n c1, .slice a2 n2 c2, .slice a3 n3 c3] w fun e w' => Copied3 w w' n n2 n3 S U L F e := by
  have hneq1 := fun w => run_neq_slice_nil_any (P := Try.prog) w 22 9 a1 n c1 0 0 Try.underlying22
  have hneq3 := fun w => run_neq_slice_nil_any (P := Try.prog) w 24 23 a3 n3 c3 0 0 Try.underlying24
  obtain ⟨w0, hw0⟩ : ∃ x, x = w.alloc (.cells #[.slice none 0 0, .slice none 0 0, .slice none 0 0] 30) := ⟨_, rfl⟩
  have T0 : Trip w0 w.heap.size (.slice none 0 0) (.slice none 0 0) (.slice none 0 0) := by rw [hw0]; exact trip _ _ _ _ _
  have e0 : w0.heap.size = w.heap.size + 1 := by rw [hw0, Go.Deep.nblk_alloc]
  have b0 : Below w.heap.size w w0 := by rw [hw0]; exact (Below.refl _ _).alloc (Nat.le_refl _) _
  obtain ⟨w1, hw1⟩ : ∃ x, x = w0.alloc (.cells #[.slice none 0 0, .slice none 0 0, .slice none 0 0] 30) := ⟨_, rfl⟩
  have T1 : Trip w1 (w.heap.size + 1) (.slice none 0 0) (.slice none 0 0) (.slice none 0 0) := by rw [hw1, ← e0]; exact trip _ _ _ _ _
  have b1 : Below w0.heap.size w0 w1 := by rw [hw1]; exact (Below.refl _ _).alloc (Nat.le_refl _) _
  have e1 : w1.heap.size = w.heap.size + 2 := by rw [hw1, Go.Deep.nblk_alloc, e0]
  have T0' := T0.on b1 (by omega)
  have hb1 := Below.step b0 b1
  go_enter Try.func12, Try.ntmps12
  go_upto_if 11 with fail
  rw [← hw0, ← hw1]
  clear hw1 hw0 T0 b0 b1 e0
  go_cut [8] (fun i wc => ∃ a1', Trip wc w.heap.size (.slice none 0 0) (.slice none 0 0) (.slice none 0 0) ∧ Trip wc (w.heap.size + 1) (.slice a1' n n) (.slice none 0 0) (.slice none 0 0) ∧ RowFrom (w.heap.size + 2) wc a1' n (fun j => .string (S j)) ∧ Below w.heap.size w wc ∧ w.heap.size + 2 ≤ wc.heap.size)
  case first =>
    clear hneq3 hu hb hf z2 z3 z4 hl
    have r1 := hs.now hb1
    clear hs
    cases a1 with
    | none =>
      obtain rfl := z1 rfl
      simp only [Option.isNone_none, Bool.not_true] at hneq1
      go_wp2_with fail
      go_meet
      case rel => exact ⟨none, T0', T1, RowFrom.nil _ _ _ _, hb1, by omega⟩
    | some ad =>
      simp only [Option.isNone_some, Bool.not_false] at hneq1
      have hmk := run_make_row' (P := Try.prog) 22 9 (.string ByteArray.empty) 16 Try.underlying22 Try.info9 rfl .i64 .i64 n (by omega) (by omega)
      obtain ⟨k0, k1, k2, kf, kl⟩ := T1
      have kf0 := kf 0
      have HT : Hid (Trip w1 (w.heap.size + 1) (.slice none 0 0) (.slice none 0 0) (.slice none 0 0)) := ⟨k0, k1, k2, kf, kl⟩
      have HB : Hid (Below w.heap.size w w1) := hb1
      have H0 : Hid (Trip w1 w.heap.size (.slice none 0 0) (.slice none 0 0) (.slice none 0 0)) := T0'
      have H1 : Hid (w1.heap.size = w.heap.size + 2) := e1
      clear T0' hb1 e1 kf
      go_wp2_with fail
      obtain ⟨w2, hw2⟩ : ∃ x, x = w1.setCell ⟨w.heap.size + 1, 0, none⟩ (.slice (some ⟨w1.heap.size, 0, none⟩) n n) := ⟨_, rfl⟩
      rw [← hw2]
      have HT2 : Hid (Trip w2 (w.heap.size + 1) (.slice (some ⟨w1.heap.size, 0, none⟩) n n) (.slice none 0 0) (.slice none 0 0)) := by rw [hw2]; exact HT.out.set0 _
      have H02 : Hid (Trip w2 w.heap.size (.slice none 0 0) (.slice none 0 0) (.slice none 0 0)) := by rw [hw2]; exact H0.out.other (by simp) _
      have hsz2 : w2.heap.size = w1.heap.size := by rw [hw2, size_set]
      have HB2 : Hid (Below w.heap.size w w2) := by rw [hw2]; exact HB.out.setCell (by simp) _
      have FS : Filling w1.heap.size w2 (w2.alloc (.cells (madeCells #[.string ByteArray.empty] n) 9)) 9 n (.string ByteArray.empty) (fun j => .string (S j)) 0 := by rw [← hsz2]; exact Filling.start _ _ _ _ _
      have r2 : ∀ j, j < n → ∃ b off, some ad = some (⟨b, off, none⟩ : Addr) ∧ w2.cell? ⟨b, off + j, none⟩ = some (.string (S j)) ∧ b < w1.heap.size := by
        obtain ⟨b, off, ha, hc⟩ := r1
        intro j hj
        have hcj := hc j hj
        refine ⟨b, off, ha (by omega), ?_, World.block_lt_of_cell? _ _ hcj⟩
        rw [hw2, World.cell?_setCell_other _ _ _ _ ?_]
        · exact hcj
        · intro e
          rw [← e, k0] at hcj; simp at hcj
      have HR : Hid (∀ j, j < n → ∃ b off, some ad = some (⟨b, off, none⟩ : Addr) ∧ w2.cell? ⟨b, off + j, none⟩ = some (.string (S j)) ∧ b < w1.heap.size) := r2
      have HZ : Hid (w2.heap.size = w1.heap.size) := hsz2
      clear hw2 hsz2 r1 r2 hmk hneq1 k0 k1 k2 kf0 kl
      go_loopw [8] (fun i wr => ∃ k : Nat, k ≤ n ∧ i = .int .i64 k ∧ Filling w1.heap.size w2 wr 9 n (.string ByteArray.empty) (fun j => .string (S j)) k) (fun i _ => n - (intOf i).toNat)
      case atStart => exact ⟨0, by omega, rfl, FS⟩
      case round =>
        clear FS
        obtain ⟨k, hk, rfl, HF⟩ := hrel
        have hgl : w.heap.size + 1 < w1.heap.size := by rw [H1.out]; omega
        have TK := HT2.out.on HF.below hgl
        by_cases hlt : k < n
        · obtain ⟨b, off, he, hcell, hbl⟩ := HR.out k hlt
          simp only [Option.some.injEq] at he
          subst he
          have q1 : wr.cell? ⟨b, off + k, none⟩ = some (.string (S k)) := by rw [HF.below.cell (p := ⟨b, off + k, none⟩) hbl]; exact hcell
          have q2 : wr.cell? ⟨w1.heap.size, k, none⟩ = some (.string ByteArray.empty) := by simpa using HF.row.cell hlt
          have q3 : wr.frozen? ⟨w1.heap.size, k, none⟩ = false := HF.row.frozen k
          obtain ⟨t0, t1, t2, t3, t4⟩ := TK
          have lt' : (k : Int) < n := by omega
          clear t1 t2 t3 HR hcell hgl
          go_wp2_with fail
          go_region
          all_goals
            go_wp2_with fail
            go_roundw
            case rel => exact ⟨k + 1, by omega, by go_num, (show Filling w1.heap.size w2 wr.drew 9 n (.string ByteArray.empty) (fun j => .string (S j)) k from ⟨HF.below.drew, HF.row⟩).next rfl⟩
            case measure => simp only [intOf]; omega
        · obtain rfl : k = n := by omega
          have T2 := H02.out.on HF.below (by rw [H1.out]; omega)
          go_wp2_with fail
          go_meet
          case rel => exact ⟨_, T2, TK, HF.done (by rw [H1.out]; omega), HB2.out.trans (HF.below.mono (by rw [H1.out]; omega)), by have := HF.below.size; rw [HZ.out, H1.out] at this; exact this⟩
  case rest =>
    obtain ⟨a1', R3, K3, s3, B3, z3'⟩ := hcut
    obtain ⟨w3, rfl⟩ : ∃ x, x = wc := ⟨_, rfl⟩
    clear T0' T1 hb1 e1 hneq1 hs z1
    go_wp2_with fail
    refine (copyU_f _ _ _ U _ hn2 z2 (hu.now B3)).mono ?_
    rintro e w4 ⟨a2', rfl, u4, z2', B4⟩
    have R4 := R3.on B4 R3.lt
    have K4 := K3.on B4 K3.lt
    have s4 := s3.now B4
    have B4' := Below.step B3 B4
    have z4' : w.heap.size + 2 ≤ w4.heap.size := Nat.le_trans z3' B4.size
    have u4' := u4.mono z3'
    obtain ⟨k0, k1, k2, kf, kl⟩ := K4
    have kf1 := kf 1
    have K4 : Hid (Trip w4 (w.heap.size + 1) (.slice a1' n n) (.slice none 0 0) (.slice none 0 0)) := ⟨k0, k1, k2, kf, kl⟩
    have R4 : Hid (Trip w4 w.heap.size (.slice none 0 0) (.slice none 0 0) (.slice none 0 0)) := R4
    clear R3 K3 s3 B3 z3' u4 B4 kf hu
    go_upto_if 34 with fail
    obtain ⟨w5, hw5⟩ : ∃ x, x = w4.setCell ⟨w.heap.size + 1, 1, none⟩ (.slice a2' n2 n2) := ⟨_, rfl⟩
    have K5 : Trip w5 (w.heap.size + 1) (.slice a1' n n) (.slice a2' n2 n2) (.slice none 0 0) := by rw [hw5]; exact K4.out.set1 _
    have R5 : Trip w5 w.heap.size (.slice none 0 0) (.slice none 0 0) (.slice none 0 0) := by rw [hw5]; exact R4.out.other (by simp) _
    have s5 : RowFrom (w.heap.size + 2) w5 a1' n (fun j => .string (S j)) := by rw [hw5]; exact s4.set (by simp) _
    have u5 : RowFrom (w.heap.size + 2) w5 a2' n2 (fun j => .int .u64 (U j)) := by rw [hw5]; exact u4'.set (by simp) _
    have B5 : Below w.heap.size w w5 := by rw [hw5]; exact B4'.setCell (by simp) _
    have e5 : w.heap.size + 2 ≤ w5.heap.size := by rw [hw5, size_set]; exact z4'
    rw [← hw5]
    clear hw5 K4 R4 s4 u4' B4' z4' k0 k1 k2 kf1 kl z2'
    go_cut [9] (fun i wc => ∃ (a3' : Option Addr) (A' : Nat → Option Addr), Trip wc w.heap.size (.slice none 0 0) (.slice none 0 0) (.slice none 0 0) ∧ Trip wc (w.heap.size + 1) (.slice a1' n n) (.slice a2' n2 n2) (.slice a3' n3 n3) ∧ RowFrom (w.heap.size + 2) wc a1' n (fun j => .string (S j)) ∧ RowFrom (w.heap.size + 2) wc a2' n2 (fun j => .int .u64 (U j)) ∧ RowFrom (w.heap.size + 2) wc a3' n3 (fun j => .slice (A' j) (L j) (L j)) ∧ (∀ j, j < n3 → RowFrom (w.heap.size + 2) wc (A' j) (L j) (fun k => .int .u64 (F j k))) ∧ Below w.heap.size w wc)
    case first =>
      cases a3 with
      | none =>
        obtain rfl := z3 rfl
        simp only [Option.isNone_none, Bool.not_true] at hneq3
        go_wp2_with fail
        go_meet
        case rel => exact ⟨none, A, R5, K5, s5, u5, RowFrom.nil _ _ _ _, fun j hj => absurd hj (by omega), B5⟩
      | some ad =>
        simp only [Option.isNone_some, Bool.not_false] at hneq3
        simp only [Option.isSome_some]
        have hmk := run_make_row' (P := Try.prog) 24 23 (.slice none 0 0) 24 Try.underlying24 Try.info23 rfl .i64 .i64 n3 (by omega) (by omega)
        have r3 := hb.now B5
        have f3 : ∀ j, j < n3 → RowAt w5 (A j) (L j) (fun k => .int .u64 (F j k)) := fun j hj => (hf j hj).now B5
        obtain ⟨k0, k1, k2, kf, kl⟩ := K5
        have kf2 := kf 2
        have K5 : Hid (Trip w5 (w.heap.size + 1) (.slice a1' n n) (.slice a2' n2 n2) (.slice none 0 0)) := ⟨k0, k1, k2, kf, kl⟩
        have R5 : Hid (Trip w5 w.heap.size (.slice none 0 0) (.slice none 0 0) (.slice none 0 0)) := R5
        have hb5 : ∀ j, j < n3 → ∃ b off, some ad = some (⟨b, off, none⟩ : Addr) ∧ w.cell? ⟨b, off + j, none⟩ = some (.slice (A j) (L j) (C j)) := by
          obtain ⟨b, off, ha, hc⟩ := hb
          intro j hj
          exact ⟨b, off, ha (by omega), hc j hj⟩
        have HR : Hid (∀ j, j < n3 → ∃ b off, some ad = some (⟨b, off, none⟩ : Addr) ∧ w.cell? ⟨b, off + j, none⟩ = some (.slice (A j) (L j) (C j))) := hb5
        have HF : Hid (∀ j, j < n3 → RowAt w (A j) (L j) (fun k => .int .u64 (F j k))) := hf
        have HL : Hid (∀ j, j < n3 → L j ≤ 16777216) := hl
        have H4 : Hid (∀ j, j < n3 → A j = none → L j = 0) := z4
        have E5 : Hid (w.heap.size + 2 ≤ w5.heap.size) := e5
        clear hb hf hb5 r3 f3 kf hl z4 e5
        go_wp2_with fail
        obtain ⟨w6, hw6⟩ : ∃ x, x = w5.setCell ⟨w.heap.size + 1, 2, none⟩ (.slice (some ⟨w5.heap.size, 0, none⟩) n3 n3) := ⟨_, rfl⟩
        rw [← hw6]
        have K6 : Hid (Trip w6 (w.heap.size + 1) (.slice a1' n n) (.slice a2' n2 n2) (.slice (some ⟨w5.heap.size, 0, none⟩) n3 n3)) := by rw [hw6]; exact K5.out.set2 _
        have R6 : Hid (Trip w6 w.heap.size (.slice none 0 0) (.slice none 0 0) (.slice none 0 0)) := by rw [hw6]; exact R5.out.other (by simp) _
        have s6 : RowFrom (w.heap.size + 2) w6 a1' n (fun j => .string (S j)) := by rw [hw6]; exact s5.set (by simp) _
        have u6 : RowFrom (w.heap.size + 2) w6 a2' n2 (fun j => .int .u64 (U j)) := by rw [hw6]; exact u5.set (by simp) _
        have B6 : Below w.heap.size w w6 := by rw [hw6]; exact B5.setCell (by simp) _
        have e6 : w6.heap.size = w5.heap.size := by rw [hw6, size_set]
        have FS : Fill2 w5.heap.size w6 (w6.alloc (.cells (madeCells #[.slice none 0 0] n3) 23)) n3 A L F 0 := by rw [← e6]; exact Fill2.start _ _ _ _ _
        have E6 : Hid (w6.heap.size = w5.heap.size) := e6
        clear hw6 K5 R5 s5 u5 B5 k0 k1 k2 kf2 kl hmk hneq3 e6
        go_loopw [9] (fun i wr => ∃ (k : Nat) (A' : Nat → Option Addr), k ≤ n3 ∧ i = .int .i64 k ∧ Fill2 w5.heap.size w6 wr n3 A' L F k) (fun i _ => n3 - (intOf i).toNat)
        case atStart => exact ⟨0, A, by omega, rfl, FS⟩
        case round =>
          clear FS
          obtain ⟨k, A', hk, rfl, HG⟩ := hrel
          have hgl : w.heap.size + 1 < w5.heap.size := by have := E5.out; omega
          have TK := K6.out.on HG.below hgl
          have Bw : Below w.heap.size w wr := B6.trans (HG.below.mono (by omega))
          by_cases hlt : k < n3
          · obtain ⟨b, off, he, hcell⟩ := HR.out k hlt
            simp only [Option.some.injEq] at he
            subst he
            have q1 : wr.cell? ⟨b, off + k, none⟩ = some (.slice (A k) (L k) (C k)) := by rw [Bw.cell (p := ⟨b, off + k, none⟩) (World.block_lt_of_cell? _ _ hcell)]; exact hcell
            have q2 : wr.cell? ⟨w5.heap.size, k, none⟩ = some (.slice none 0 0) := by simpa using HG.row.cell hlt
            have q3 : wr.frozen? ⟨w5.heap.size, k, none⟩ = false := HG.row.frozen k
            have rk := (HF.out k hlt).now Bw
            have lk := HL.out k hlt
            have zk := H4.out k hlt
            obtain ⟨t0, t1, t2, t3, t4⟩ := TK
            have lt' : (k : Int) < n3 := by omega
            have hgr := HG.lt
            clear t0 t1 t3 HR hcell hgl HF HL H4
            go_wp2_with fail
            go_region_with (go_at_call 25; refine (copyU_f _ _ _ (F k) wr.drew lk zk rk).mono ?_; rintro e w' ⟨ak, rfl, rk', zk', bk'⟩; have t2' := (bk'.cell (p := ⟨w.heap.size + 1, 2, none⟩) t4).trans t2; have q2' := (bk'.cell (p := ⟨w5.heap.size, k, none⟩) hgr).trans q2; have q3' := (bk'.frozen (p := ⟨w5.heap.size, k, none⟩) hgr).trans q3)
            all_goals
              go_wp2_with fail
              go_roundw
              case rel => exact ⟨k + 1, _, by omega, by go_num, (show Fill2 w5.heap.size w6 wr.drew n3 A' L F k from ⟨HG.below.drew, HG.row, HG.rows, HG.lt⟩).next bk' rk'⟩
              case measure => simp only [intOf]; omega
          · obtain rfl : k = n3 := by omega
            have T2 := R6.out.on HG.below (by omega)
            have hB : Below w6.heap.size w6 wr := by rw [E6.out]; exact HG.below
            clear HR HF HL H4 hgl
            go_wp2_with fail
            go_meet
            case rel => exact ⟨some ⟨w5.heap.size, 0, none⟩, A', T2, TK, s6.now hB, u6.now hB, rowFrom_of_rowIs (HG.row.congr (fun j hj => by rw [if_pos hj])) E5.out, fun j hj => (HG.rows j hj).mono (by have := E5.out; omega), Bw⟩
    case rest =>
      obtain ⟨a3', A', R6, K6, s6, u6, b6, f6, B6⟩ := hcut
      obtain ⟨w6, rfl⟩ : ∃ x, x = wc := ⟨_, rfl⟩
      obtain ⟨k0, k1, k2, kf, kl⟩ := K6
      obtain ⟨m0, m1, m2, mf, ml⟩ := R6
      have mf0 := mf 0
      have mf1 := mf 1
      have mf2 := mf 2
      clear K5 R5 s5 u5 B5 e5 hb hf z3 z4 hneq3
      go_wp2_with fail
      refine bodyPost_ret (v := .agg #[.slice a1' n n, .slice a2' n2 n2, .slice a3' n3 n3]) ?_ rfl ?_
      · have T := ((Trip.set0 ⟨m0, m1, m2, mf, ml⟩ (.slice a1' n n)).set1 (.slice a2' n2 n2)).set2 (.slice a3' n3 n3)
        simp [results, Try.results12, go_sem, T.c0, T.c1, T.c2, Result.andThen]
      · refine ⟨a1', a2', a3', A', rfl, ⟨?_, ?_, ?_, ?_⟩, ?_⟩
        · exact (((s6.set (by simp) _).set (by simp) _).set (by simp) _).mono (by omega)
        · exact (((u6.set (by simp) _).set (by simp) _).set (by simp) _).mono (by omega)
        · exact (((b6.set (by simp) _).set (by simp) _).set (by simp) _).mono (by omega)
        · intro j hj; exact ((((f6 j hj).set (by simp) _).set (by simp) _).set (by simp) _).mono (by omega)
        · exact ((B6.setCell (Nat.le_refl _) _).setCell (Nat.le_refl _) _).setCell (Nat.le_refl _) _
end Go.Proofs.Qxb6620807a
