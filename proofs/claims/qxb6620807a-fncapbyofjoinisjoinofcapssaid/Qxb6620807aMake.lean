import Derived.Test.Qxb6620807aOwn
import Derived.Handy
namespace Go.Proofs.Qxb6620807a
open Go.RowKit
set_option linter.unusedVariables false

theorem Try.info54 : (Try.prog.info? 54).map (fun i => (i.zero, i.size, i.bytes)) = some (some (.agg #[.string ByteArray.empty, .int .u64 0, .slice none 0 0]), 3, 48) := by kernel_rfl

/-- One cell that was laid. -/
structure Cell1 (w w1 : World) (x : Value) : Prop where
  below : Below w.heap.size w w1
  c0 : w1.cell? ⟨w.heap.size, 0, none⟩ = some x
  fr : w1.frozen? ⟨w.heap.size, 0, none⟩ = false
  lt : w.heap.size < w1.heap.size
theorem cell1 (w : World) (x : Value) (t : TypeId) : Cell1 w (w.alloc (.cells #[x] t)) x := by
  refine ⟨(Below.refl _ _).alloc (Nat.le_refl _) _, ?_, ?_, ?_⟩
  · simp
  · simp
  · rw [Go.Deep.nblk_alloc]; omega
theorem Cell1.on {w w1 w2 : World} {x : Value} (B : Cell1 w w1 x) (k : Below w1.heap.size w1 w2) : Cell1 w w2 x := by
  refine ⟨Below.step B.below k, ?_, ?_, Nat.lt_of_lt_of_le B.lt k.size⟩
  · rw [k.cell (p := ⟨w.heap.size, 0, none⟩) B.lt]; exact B.c0
  · rw [k.frozen (p := ⟨w.heap.size, 0, none⟩) B.lt]; exact B.fr

theorem new3 (w : World) (x y z : Value) (t : TypeId) : ∀ j u, [x, y, z][j]? = some u → (w.alloc (.cells #[x, y, z] t)).cell? (Addr.add ⟨w.heap.size, 0, none⟩ j) = some u := by
  intro j u hj
  match j, hj with
  | 0, hj => simp at hj; subst hj; simp [Addr.add]
  | 1, hj => simp at hj; subst hj; simp [Addr.add]
  | 2, hj => simp at hj; subst hj; simp [Addr.add]
  | j + 3, hj => simp at hj
theorem rcell_one (r : Raw) : ∀ u ∈ rcell r, u.oneCell' = true := by
  intro u hu
  simp only [rcell, List.mem_cons, List.not_mem_nil, or_false] at hu
  rcases hu with rfl | rfl | rfl <;> rfl
theorem size_alloc_le {w1 w : World} (h : w1.heap.size ≤ w.heap.size) (o : Obj) : w1.heap.size ≤ (w.alloc o).heap.size := by rw [Go.Deep.nblk_alloc]; omega

def raw (S : Nat → ByteArray) (U : Nat → Int) (A : Nat → Option Addr) (L C : Nat → Nat) (j : Nat) : Raw := (S j, U j, A j, L j, C j)
def raws (S : Nat → ByteArray) (U : Nat → Int) (A : Nat → Option Addr) (L C : Nat → Nat) (n : Nat) : List Raw := (List.range n).map (raw S U A L C)
theorem raws_succ (S : Nat → ByteArray) (U : Nat → Int) (A : Nat → Option Addr) (L C : Nat → Nat) (n : Nat) : raws S U A L C (n + 1) = raws S U A L C n ++ [raw S U A L C n] := by simp [raws, List.range_succ]

/-- A context of runs is handed back. -/
def Made (rs : List Raw) (w w' : World) (e : Ending) : Prop := ∃ a c, e = .returned (.agg #[.slice a rs.length c]) ∧ RunsFrom w.heap.size w' a rs ∧ rs.length ≤ c ∧ Below w.heap.size w w'

set_option maxHeartbeats 1000000 in
theorem context_f (a1 a2 a3 : Option Addr) (n c1 c2 c3 : Nat) (S : Nat → ByteArray) (U : Nat → Int) (A : Nat → Option Addr) (L C : Nat → Nat) (w : World) (hn : n ≤ 16777216)
    (hs : RowAt w a1 n (fun j => .string (S j))) (hu : RowAt w a2 n (fun j => .int .u64 (U j))) (hb : RowAt w a3 n (fun j => .slice (A j) (L j) (C j))) :
    Calls Try.prog 30 #[.slice a1 n c1, .slice a2 n c2, .slice a3 n c3] w (fun e w' => Made (raws S U A L C n) w w' e) := by
  obtain ⟨i0, hi, hz0, hz1, hz2⟩ := info_parts Try.info54
  obtain ⟨w1, hw1⟩ : ∃ x, x = w.alloc (.cells #[.slice none 0 0] 35) := ⟨_, rfl⟩
  have D := cell1 w (.slice none 0 0) 35
  rw [← hw1] at D
  obtain ⟨w2, hmk, hown, hgr⟩ := run_make_own (P := Try.prog) w1 w1.heap.size 33 54 i0 _ 3 Try.underlying33 hi hz0 hz1 .i64 .i64 n (by rw [hz2]; omega) (by unfold maxLen; omega) (Nat.le_refl _)
  have hb12 : Below w1.heap.size w1 w2 := (Below.refl _ _).grown hgr (Nat.le_refl _) (fun k hk => by cases hk)
  obtain ⟨b1, o1, e1, r1⟩ := hs.now D.below
  obtain ⟨b2, o2, e2, r2⟩ := hu.now D.below
  obtain ⟨b3, o3, e3, r3⟩ := hb.now D.below
  have HR : Hid (∀ wr, Below w1.heap.size w1 wr → ∀ j, j < n → wr.cell? ⟨b1, o1 + j, none⟩ = some (.string (S j)) ∧ wr.cell? ⟨b2, o2 + j, none⟩ = some (.int .u64 (U j)) ∧ wr.cell? ⟨b3, o3 + j, none⟩ = some (.slice (A j) (L j) (C j))) := by
    intro wr hwr j hj
    have h1 := r1 j hj
    have h2 := r2 j hj
    have h3 := r3 j hj
    refine ⟨?_, ?_, ?_⟩
    · rw [hwr.cell (p := ⟨b1, o1 + j, none⟩) (World.block_lt_of_cell? _ _ h1)]; exact h1
    · rw [hwr.cell (p := ⟨b2, o2 + j, none⟩) (World.block_lt_of_cell? _ _ h2)]; exact h2
    · rw [hwr.cell (p := ⟨b3, o3 + j, none⟩) (World.block_lt_of_cell? _ _ h3)]; exact h3
  have HD : Hid (Cell1 w w1 (.slice none 0 0)) := D
  clear hs hu hb r1 r2 r3 hgr D
  go_enter Try.func30, Try.ntmps30
  have HZ : Hid (w1.heap.size = w.heap.size + 1) := by unfold Hid; rw [hw1, Go.Deep.nblk_alloc]
  rw [hw1] at hmk
  clear hw1
  go_wp2_with fail
  clear hmk
  go_loopw [7, 8] (fun v i wr => ∃ k : Nat, k ≤ n ∧ i = .int .i64 k ∧ wr.ownsRow w1.heap.size 54 3 v k (rcells (raws S U A L C k)) ∧ Below w1.heap.size w1 wr) (fun _ i _ => n - (intOf i).toNat)
  case atStart => exact ⟨0, by omega, rfl, by rw [HZ.out] at hown ⊢; exact hown, hb12⟩
  case round =>
    clear hown hb12
    obtain ⟨k, hk, rfl, hown, hbel⟩ := hrel
    by_cases hlt : k < n
    · obtain rfl := e1 (by omega)
      obtain rfl := e2 (by omega)
      obtain rfl := e3 (by omega)
      obtain ⟨q1, q2, q3⟩ := HR.out wr hbel k hlt
      have lt' : (k : Int) < n := by omega
      go_wp2_with fail
      have hsz := hbel.size
      go_region_law (refine step_append_own rfl _ _ 33 rfl w1.heap.size 54 i0 _ 3 48 Try.underlying33 hi hz0 hz1 hz2 rfl (by decide) _ k (rcells (raws S U A L C k)) rfl (World.ownsRow.alloc hown _) ⟨wr.heap.size, 0, none⟩ 1 1 (rcell (raw S U A L C k)) rfl rfl (new3 _ _ _ _ _) (rcell_one _) (by unfold maxLen; omega) (by omega) (size_alloc_le hsz _) ?_; intro v' w' hown' hgrow _)
      all_goals
        have hbel' : Below w1.heap.size w1 w' := (Below.alloc (Below.drew hbel) hsz _).grown hgrow (size_alloc_le hsz _) (fun x hx => (hown.lt x hx).1)
        have HO : Hid (w'.ownsRow w1.heap.size 54 3 v' (k + 1) (rcells (raws S U A L C (k + 1)))) := by
          unfold Hid; rw [raws_succ, rcells_append]
          have e : rcells [raw S U A L C k] = rcell (raw S U A L C k) := by simp [rcells]
          rw [e]; exact hown'
        clear hown hown' hgrow hbel q1 q2 q3
        go_wp2_with fail
        go_roundw
        case rel => exact ⟨k + 1, by omega, by go_num, HO.out, hbel'⟩
        case measure => simp only [intOf]; omega
    · obtain rfl : n = k := by omega
      obtain ⟨a, c, rfl, hlen, hc, hruns⟩ := runsAt_of_own hown
      have D2 := HD.out.on hbel
      have hlt1 := HD.out.lt
      obtain ⟨f1, f2, f3, f4⟩ := D2
      have f5 := World.cell?_setCell_same _ _ (.slice a n c) f2
      have HS := (hruns.set (p := ⟨w.heap.size, 0, none⟩) hlt1 (.slice a n c)).mono (Nat.le_of_lt hlt1)
      have HS : Hid (RunsFrom w.heap.size (wr.setCell ⟨w.heap.size, 0, none⟩ (.slice a n c)) a (raws S U A L C n)) := HS
      have hlen' : (raws S U A L C n).length = n := hlen.symm
      clear HR HD hown hlen hruns hlt1
      go_wp2_with fail
      try simp only [Exit.inBlock, Exit.then]
      refine bodyPost_ret (v := .agg #[.slice a n c]) ?_ rfl ?_
      · simp [results, Try.results30, go_sem, f5, Result.andThen]
      · exact ⟨a, c, by rw [hlen'], HS.out, by omega, f1.setCell (Nat.le_refl _) _⟩

set_option maxHeartbeats 400000 in
theorem make_f (a1 a2 a3 : Option Addr) (n c1 c2 c3 : Nat) (S : Nat → ByteArray) (U : Nat → Int) (A : Nat → Option Addr) (L C : Nat → Nat) (w : World) (hn : n ≤ 16777216)
    (hs : RowAt w a1 n (fun j => .string (S j))) (hu : RowAt w a2 n (fun j => .int .u64 (U j))) (hb : RowAt w a3 n (fun j => .slice (A j) (L j) (C j))) :
    Calls Try.prog 14 #[.agg #[.slice a1 n c1, .slice a2 n c2, .slice a3 n c3]] w (fun e w' => Made (raws S U A L C n) w w' e) := by
  obtain ⟨w0, hw0⟩ : ∃ x, x = w.alloc (.cells #[.slice a1 n c1, .slice a2 n c2, .slice a3 n c3] 30) := ⟨_, rfl⟩
  have B := box3' w (.slice a1 n c1) (.slice a2 n c2) (.slice a3 n c3) 30
  rw [← hw0] at B
  have e0 : w0.heap.size = w.heap.size + 1 := by rw [hw0, Go.Deep.nblk_alloc]
  have D := cell1 w0 (.slice none 0 0) 35
  generalize hw1 : w0.alloc (.cells #[.slice none 0 0] 35) = w1 at D
  have hb1 : Below w.heap.size w w1 := Below.step B.below D.below
  go_enter Try.func14, Try.ntmps14
  go_wp2_with fail
  rw [← hw0, hw1]
  refine (context_f _ _ _ _ _ _ _ S U A L C _ hn (hs.now hb1) (hu.now hb1) (hb.now hb1)).mono ?_
  rintro e w2 ⟨a, c, rfl, hr, hc, hb2⟩
  have hlt1 := D.lt
  obtain ⟨f1, f2, f3, f4⟩ := D.on hb2
  rw [e0] at f1 f2 f3 f4 hlt1
  have hb3 := Below.step hb1 hb2
  generalize hlen : (raws S U A L C n).length = m at *
  have f5 := World.cell?_setCell_same _ _ (.slice a m c) f2
  have HS := (hr.set (p := ⟨w.heap.size + 1, 0, none⟩) hlt1 (.slice a m c)).mono (Nat.le_trans (Nat.le_succ _) (Nat.le_of_lt hlt1))
  have HS : Hid (RunsFrom w.heap.size (w2.setCell ⟨w.heap.size + 1, 0, none⟩ (.slice a m c)) a (raws S U A L C n)) := HS
  have HL : Hid ((raws S U A L C n).length = m) := hlen
  clear hs hu hb hr hlen hw0 hw1 e0
  go_wp2_with fail
  try simp only [Exit.inBlock, Exit.then]
  refine bodyPost_ret (v := .agg #[.slice a m c]) ?_ rfl ?_
  · simp [results, Try.results14, go_sem, f5, Result.andThen]
  · exact ⟨a, c, by rw [HL.out], HS.out, by rw [HL.out]; exact hc, hb3.setCell (Nat.le_succ _) _⟩
end Go.Proofs.Qxb6620807a
