import Derived.Test.Qxb6620807aCopy2
import Derived.Deep.DeepAppendRoom
namespace Go.Proofs.Qxb6620807a
open Go.RowKit
set_option linter.unusedVariables false

theorem new1 (w : World) (x : Value) (t : TypeId) : ∀ j u, [x][j]? = some u → (w.alloc (.cells #[x] t)).cell? (Addr.add ⟨w.heap.size, 0, none⟩ j) = some u := by
  intro j u hj
  match j, hj with
  | 0, hj => simp at hj; subst hj; simp [Addr.add]
  | j + 1, hj => simp at hj

theorem rowFrom_of_own {w : World} {B : Nat} {e : TypeId} {a : Option Addr} {n c : Nat} {xs : List Value} (h : w.ownsRow B e 1 (.slice a n c) n xs) {f : Nat → Value} (hf : ∀ j, j < n → xs[j]? = some (f j)) : RowFrom B w a n f := by
  rcases h.2 with ⟨h0, h1⟩ | ⟨g, cap, cur, hv, hb, hg, hcap, hmax, hsz, htake⟩
  · subst h1; exact RowFrom.nil _ _ _ _
  · cases hv
    refine ⟨g, 0, hb, fun _ => rfl, fun j hj => ?_⟩
    have := World.ownsRow.cells h (g := g) rfl j _ (hf j hj)
    rw [show (Addr.add ⟨g, 0, none⟩ j) = ⟨g, 0 + j, none⟩ from by simp only [Addr.add]; split <;> simp_all] at this
    exact this

def dr : Raw := (ByteArray.empty, 0, none, 0, 0)
/-- What ZZRuns hands back. -/
def ReadR (rs : List Raw) (w w' : World) (e : Ending) : Prop := ∃ a1 a2 a3, e = .returned (.tuple #[.slice a1 rs.length rs.length, .slice a2 rs.length rs.length, .slice a3 rs.length rs.length]) ∧
  RowFrom w.heap.size w' a1 rs.length (fun j => .string (rs.getD j dr).1) ∧ RowFrom w.heap.size w' a2 rs.length (fun j => .int .u64 (rs.getD j dr).2.1) ∧
  RowFrom w.heap.size w' a3 rs.length (fun j => .slice (rs.getD j dr).2.2.1 (rs.getD j dr).2.2.2.1 (rs.getD j dr).2.2.2.2) ∧ Below w.heap.size w w'

theorem take_at {rs : List Raw} {k : Nat} {r : Raw} (h : rs[k]? = some r) : rs.take (k + 1) = rs.take k ++ [r] := by rw [List.take_add_one, h]; rfl

set_option maxHeartbeats 1000000 in
theorem runs_f (a : Option Addr) (n c : Nat) (rs : List Raw) (w : World) (hn : n ≤ 16777216) (hlen : rs.length = n) (h : RunsAt w a rs) :
    Calls Try.prog 29 #[.agg #[.slice a n c]] w (fun e w' => ReadR rs w w' e) := by
  obtain ⟨i9, hi9, hz9, hs9, hb9⟩ := info_parts Try.info9
  obtain ⟨i41, hi41, hz41, hs41, hb41⟩ := info_parts Try.info41
  obtain ⟨i23, hi23, hz23, hs23, hb23⟩ := info_parts Try.info23
  obtain ⟨w1, hw1⟩ : ∃ x, x = w.alloc (.cells #[.slice a n c] 35) := ⟨_, rfl⟩
  have D := cell1 w (.slice a n c) 35
  rw [← hw1] at D
  obtain ⟨w2, mk2, own2, gr2⟩ := run_make_own (P := Try.prog) w1 w1.heap.size 22 9 i9 _ 1 Try.underlying22 hi9 hz9 hs9 .i64 .i64 n (by rw [hb9]; omega) (by unfold maxLen; omega) (Nat.le_refl _)
  obtain ⟨w3, mk3, own3, gr3⟩ := run_make_own (P := Try.prog) w2 w2.heap.size 23 41 i41 _ 1 Try.underlying23 hi41 hz41 hs41 .i64 .i64 n (by rw [hb41]; omega) (by unfold maxLen; omega) (Nat.le_refl _)
  obtain ⟨w4, mk4, own4, gr4⟩ := run_make_own (P := Try.prog) w3 w3.heap.size 24 23 i23 _ 1 Try.underlying24 hi23 hz23 hs23 .i64 .i64 n (by rw [hb23]; omega) (by unfold maxLen; omega) (Nat.le_refl _)
  have l2 : w1.heap.size < w2.heap.size := (own2.lt w1.heap.size rfl).2
  have l3 : w2.heap.size < w3.heap.size := (own3.lt w2.heap.size rfl).2
  have l4 : w3.heap.size < w4.heap.size := (own4.lt w3.heap.size rfl).2
  have B2 : Below w1.heap.size w1 w2 := (Below.refl _ _).grown gr2 (Nat.le_refl _) (fun k hk => by cases hk)
  have B3 : Below w2.heap.size w2 w3 := (Below.refl _ _).grown gr3 (Nat.le_refl _) (fun k hk => by cases hk)
  have B4 : Below w3.heap.size w3 w4 := (Below.refl _ _).grown gr4 (Nat.le_refl _) (fun k hk => by cases hk)
  have o2 := (own2.kept gr3 (Or.inr (by simp [Value.ownBlock]))).kept gr4 (Or.inr (by simp [Value.ownBlock]))
  have o3 := own3.kept gr4 (Or.inr (by simp [Value.ownBlock]))
  have BW : Below w1.heap.size w1 w4 := Below.step B2 (Below.step B3 B4)
  have c12 : w2.cell? ⟨w.heap.size, 0, none⟩ = some (.slice a n c) := by rw [B2.cell (p := ⟨w.heap.size, 0, none⟩) D.lt]; exact D.c0
  have c13 : w3.cell? ⟨w.heap.size, 0, none⟩ = some (.slice a n c) := by rw [B3.cell (p := ⟨w.heap.size, 0, none⟩) (Nat.lt_trans D.lt l2)]; exact c12
  have c1 := D.c0
  have hr1 := h.now D.below
  have HD : Hid (Cell1 w w1 (.slice a n c)) := D
  have HB : Hid (Below w1.heap.size w1 w4) := BW
  have e1 : w1.heap.size = w.heap.size + 1 := by rw [hw1, Go.Deep.nblk_alloc]
  have E1 : Hid (w1.heap.size = w.heap.size + 1) := e1
  rw [e1] at o2 l2
  rw [e1] at mk2
  rw [hw1] at mk2 c1
  clear D B2 B3 B4 gr2 gr3 gr4 own2 own3 BW h hw1 e1
  have HN : Hid (rs.length = n) := hlen
  clear hlen
  go_enter Try.func29, Try.ntmps29
  go_wp2_with fail
  clear mk2 mk3 mk4 c12 c13 c1
  go_loopw [5, 6, 7, 8] (fun v5 v6 v7 i wr => ∃ k : Nat, k ≤ n ∧ i = .int .i64 k ∧ v5 = .slice (some ⟨w.heap.size + 1, 0, none⟩) k n ∧ v6 = .slice (some ⟨w2.heap.size, 0, none⟩) k n ∧ v7 = .slice (some ⟨w3.heap.size, 0, none⟩) k n ∧
      wr.ownsRow (w.heap.size + 1) 9 1 (.slice (some ⟨w.heap.size + 1, 0, none⟩) k n) k ((rs.take k).map fun r => .string r.1) ∧
      wr.ownsRow w2.heap.size 41 1 (.slice (some ⟨w2.heap.size, 0, none⟩) k n) k ((rs.take k).map fun r => .int .u64 r.2.1) ∧
      wr.ownsRow w3.heap.size 23 1 (.slice (some ⟨w3.heap.size, 0, none⟩) k n) k ((rs.take k).map fun r => .slice r.2.2.1 r.2.2.2.1 r.2.2.2.2) ∧ Below w1.heap.size w1 wr) (fun _ _ _ i _ => n - (intOf i).toNat)
  case atStart => exact ⟨0, by omega, rfl, rfl, rfl, rfl, by simpa using o2, by simpa using o3, by simpa using own4, HB.out⟩
  case round =>
    clear o2 o3 own4 HB
    obtain ⟨k, hk, rfl, rfl, rfl, rfl, h5, h6, h7, hbel⟩ := hrel
    have D2 := HD.out.on hbel
    obtain ⟨f1, f2, f3, f4⟩ := D2
    by_cases hlt : k < n
    · obtain ⟨r, hr⟩ : ∃ r, rs[k]? = some r := ⟨_, List.getElem?_eq_getElem (by rw [HN.out]; exact hlt)⟩
      obtain ⟨b, off, ha, hc⟩ := hr1.now hbel
      obtain ⟨q1, q2, q3⟩ := hc k r hr
      obtain rfl := ha (by rw [HN.out]; omega)
      have T := take_at hr
      have hbw : b < w1.heap.size := by
        obtain ⟨b', off', ha', hc'⟩ := hr1
        have e := ha' (by rw [HN.out]; omega)
        simp only [Option.some.injEq, Addr.mk.injEq] at e
        obtain ⟨rfl, _, _⟩ := e
        exact World.block_lt_of_cell? _ _ (hc' k r hr).1
      have hw0 : w.heap.size < w1.heap.size := HD.out.lt
      clear hc ha
      have key : ∀ wx wy g, Below w1.heap.size w1 wx → wx.grownBy wy (some g) → w1.heap.size ≤ g → Below w1.heap.size w1 wy := fun wx wy g h1 h2 h3 => h1.grown h2 h1.size (fun x hx => by cases hx; exact h3)
      have hsz := hbel.size
      go_wp2_with (at_builtin; refine wpList_append_own_spare _ rfl _ _ 22 rfl (w.heap.size + 1) 9 i9 1 Try.underlying22 hi9 hs9 (w.heap.size + 1) k n _ rfl (World.ownsRow.alloc h5 _) ⟨wr.heap.size, 0, none⟩ 1 1 [.string r.1] rfl rfl (new1 _ _ _) (by simp [Value.oneCell']) (by omega) ?_)
      intro wa oa ga
      have ba : Below w1.heap.size w1 wa := key _ _ _ (hbel.alloc hsz _) ga (by rw [E1.out]; exact Nat.le_refl _)
      have h6a := (World.ownsRow.alloc h6 (.cells #[.string r.1] 9)).kept ga (Or.inr (by simp [Value.ownBlock]; omega))
      have h7a := (World.ownsRow.alloc h7 (.cells #[.string r.1] 9)).kept ga (Or.inr (by simp [Value.ownBlock]; omega))
      have f2a : wa.cell? ⟨w.heap.size, 0, none⟩ = some (.slice (some ⟨b, off, none⟩) n c) := by rw [ba.cell (p := ⟨w.heap.size, 0, none⟩) hw0]; exact HD.out.c0
      have q2a : wa.cell? ⟨b, off + k * 3 + 1, none⟩ = some (.int .u64 r.2.1) := (ba.cell (p := ⟨b, off + k * 3 + 1, none⟩) hbw).trans ((hbel.cell (p := ⟨b, off + k * 3 + 1, none⟩) hbw).symm.trans q2)
      have q3a : wa.cell? ⟨b, off + k * 3 + 2, none⟩ = some (.slice r.2.2.1 r.2.2.2.1 r.2.2.2.2) := (ba.cell (p := ⟨b, off + k * 3 + 2, none⟩) hbw).trans ((hbel.cell (p := ⟨b, off + k * 3 + 2, none⟩) hbw).symm.trans q3)
      have OA : Hid (wa.ownsRow (w.heap.size + 1) 9 1 (.slice (some ⟨w.heap.size + 1, 0, none⟩) (k + 1) n) (k + 1) ((rs.take (k + 1)).map fun r => .string r.1)) := by
        unfold Hid; rw [T, List.map_append, List.map_take]; exact oa
      clear ga oa h5 h6 h7 q1 q2 q3 f2 f3 hbel hsz f1 f4
      have hsa := ba.size
      go_wp2_with (at_builtin; refine wpList_append_own_spare _ rfl _ _ 23 rfl w2.heap.size 41 i41 1 Try.underlying23 hi41 hs41 w2.heap.size k n _ rfl (World.ownsRow.alloc h6a _) ⟨wa.heap.size, 0, none⟩ 1 1 [.int .u64 r.2.1] rfl rfl (new1 _ _ _) (by simp [Value.oneCell']) (by omega) ?_)
      intro wb ob gb
      have bb : Below w1.heap.size w1 wb := key _ _ _ (ba.alloc hsa _) gb (by rw [E1.out]; omega)
      have h5b := (World.ownsRow.alloc OA.out (.cells #[.int .u64 r.2.1] 41)).kept gb (Or.inr (by simp [Value.ownBlock]; omega))
      have h7b := (World.ownsRow.alloc h7a (.cells #[.int .u64 r.2.1] 41)).kept gb (Or.inr (by simp [Value.ownBlock]; omega))
      have f2b : wb.cell? ⟨w.heap.size, 0, none⟩ = some (.slice (some ⟨b, off, none⟩) n c) := by rw [bb.cell (p := ⟨w.heap.size, 0, none⟩) hw0]; exact HD.out.c0
      have q3b : wb.cell? ⟨b, off + k * 3 + 2, none⟩ = some (.slice r.2.2.1 r.2.2.2.1 r.2.2.2.2) := (bb.cell (p := ⟨b, off + k * 3 + 2, none⟩) hbw).trans ((ba.cell (p := ⟨b, off + k * 3 + 2, none⟩) hbw).symm.trans q3a)
      have OB : Hid (wb.ownsRow w2.heap.size 41 1 (.slice (some ⟨w2.heap.size, 0, none⟩) (k + 1) n) (k + 1) ((rs.take (k + 1)).map fun r => .int .u64 r.2.1)) := by
        unfold Hid; rw [T, List.map_append, List.map_take]; exact ob
      have OA2 : Hid (wb.ownsRow (w.heap.size + 1) 9 1 (.slice (some ⟨w.heap.size + 1, 0, none⟩) (k + 1) n) (k + 1) ((rs.take (k + 1)).map fun r => .string r.1)) := h5b
      clear gb ob h6a h7a q2a q3a f2a ba hsa OA h5b
      have hsb := bb.size
      go_wp2_with (at_builtin; refine wpList_append_own_spare _ rfl _ _ 24 rfl w3.heap.size 23 i23 1 Try.underlying24 hi23 hs23 w3.heap.size k n _ rfl (World.ownsRow.alloc h7b _) ⟨wb.heap.size, 0, none⟩ 1 1 [.slice r.2.2.1 r.2.2.2.1 r.2.2.2.2] rfl rfl (new1 _ _ _) (by simp [Value.oneCell']) (by omega) ?_)
      intro wd od gd
      have bd : Below w1.heap.size w1 wd := key _ _ _ (bb.alloc hsb _) gd (by rw [E1.out]; omega)
      have h5d := (World.ownsRow.alloc OA2.out (.cells #[.slice r.2.2.1 r.2.2.2.1 r.2.2.2.2] 23)).kept gd (Or.inr (by simp [Value.ownBlock]; omega))
      have h6d := (World.ownsRow.alloc OB.out (.cells #[.slice r.2.2.1 r.2.2.2.1 r.2.2.2.2] 23)).kept gd (Or.inr (by simp [Value.ownBlock]; omega))
      have OD : Hid (wd.ownsRow w3.heap.size 23 1 (.slice (some ⟨w3.heap.size, 0, none⟩) (k + 1) n) (k + 1) ((rs.take (k + 1)).map fun r => .slice r.2.2.1 r.2.2.2.1 r.2.2.2.2)) := by
        unfold Hid; rw [T, List.map_append, List.map_take]; exact od
      have H5 : Hid (wd.ownsRow (w.heap.size + 1) 9 1 (.slice (some ⟨w.heap.size + 1, 0, none⟩) (k + 1) n) (k + 1) ((rs.take (k + 1)).map fun r => .string r.1)) := h5d
      have H6 : Hid (wd.ownsRow w2.heap.size 41 1 (.slice (some ⟨w2.heap.size, 0, none⟩) (k + 1) n) (k + 1) ((rs.take (k + 1)).map fun r => .int .u64 r.2.1)) := h6d
      clear gd od h7b OA2 OB h5d h6d q3b f2b bb hsb T
      go_wp2_with fail
      go_roundw
      case rel => exact ⟨k + 1, by omega, by go_num, rfl, rfl, rfl, H5.out, H6.out, OD.out, bd⟩
      case measure => simp only [intOf]; omega
    · obtain rfl : n = k := by omega
      have hat : ∀ j, j < n → rs[j]? = some (rs.getD j dr) := fun j hj => by rw [List.getD_eq_getElem?_getD, List.getElem?_eq_getElem (by rw [HN.out]; exact hj)]; rfl
      have hall : rs.take n = rs := List.take_of_length_le (by rw [HN.out]; exact Nat.le_refl _)
      rw [hall] at h5 h6 h7
      have R5 := rowFrom_of_own h5 (f := fun j => .string (rs.getD j dr).1) (fun j hj => by rw [List.getElem?_map, hat j hj]; rfl)
      have R6 := rowFrom_of_own h6 (f := fun j => .int .u64 (rs.getD j dr).2.1) (fun j hj => by rw [List.getElem?_map, hat j hj]; rfl)
      have R7 := rowFrom_of_own h7 (f := fun j => .slice (rs.getD j dr).2.2.1 (rs.getD j dr).2.2.2.1 (rs.getD j dr).2.2.2.2) (fun j hj => by rw [List.getElem?_map, hat j hj]; rfl)
      have HR : Hid (ReadR rs w wr (.returned (.tuple #[.slice (some ⟨w.heap.size + 1, 0, none⟩) n n, .slice (some ⟨w2.heap.size, 0, none⟩) n n, .slice (some ⟨w3.heap.size, 0, none⟩) n n]))) := by
        unfold Hid ReadR
        rw [HN.out]
        exact ⟨_, _, _, rfl, R5.mono (by omega), R6.mono (by omega), R7.mono (by omega), f1⟩
      clear h5 h6 h7 R5 R6 R7 hat hall hr1
      go_wp2_with fail
      go_ret3
      exact HR.out
end Go.Proofs.Qxb6620807a
