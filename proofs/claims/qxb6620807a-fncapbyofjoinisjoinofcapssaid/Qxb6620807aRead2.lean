import Derived.Test.Qxb6620807aRead
namespace Go.Proofs.Qxb6620807a
open Go.RowKit
set_option linter.unusedVariables false

/-- What zzRead hands back. -/
def ReadC (rs : List Raw) (w w' : World) (e : Ending) : Prop := ∃ a1 a2 a3, e = .returned (.agg #[.slice a1 rs.length rs.length, .slice a2 rs.length rs.length, .slice a3 rs.length rs.length]) ∧
  RowFrom w.heap.size w' a1 rs.length (fun j => .string (rs.getD j dr).1) ∧ RowFrom w.heap.size w' a2 rs.length (fun j => .int .u64 (rs.getD j dr).2.1) ∧
  RowFrom w.heap.size w' a3 rs.length (fun j => .slice (rs.getD j dr).2.2.1 (rs.getD j dr).2.2.2.1 (rs.getD j dr).2.2.2.2) ∧ Below w.heap.size w w'

set_option maxHeartbeats 400000 in
theorem read_f (a : Option Addr) (n c : Nat) (rs : List Raw) (w : World) (hn : n ≤ 16777216) (hlen : rs.length = n) (h : RunsAt w a rs) :
    Calls Try.prog 13 #[.agg #[.slice a n c]] w (fun e w' => ReadC rs w w' e) := by
  obtain ⟨w0, hw0⟩ : ∃ x, x = w.alloc (.cells #[.slice a n c] 35) := ⟨_, rfl⟩
  have D := cell1 w (.slice a n c) 35
  rw [← hw0] at D
  have e0 : w0.heap.size = w.heap.size + 1 := by rw [hw0, Go.Deep.nblk_alloc]
  obtain ⟨w1, hw1⟩ : ∃ x, x = w0.alloc (.cells #[.slice none 0 0, .slice none 0 0, .slice none 0 0] 30) := ⟨_, rfl⟩
  have T1 : Trip w1 (w.heap.size + 1) (.slice none 0 0) (.slice none 0 0) (.slice none 0 0) := by rw [hw1, ← e0]; exact trip _ _ _ _ _
  have b1 : Below w0.heap.size w0 w1 := by rw [hw1]; exact (Below.refl _ _).alloc (Nat.le_refl _) _
  have hb1 := Below.step D.below b1
  go_enter Try.func13, Try.ntmps13
  go_wp2_with fail
  rw [← hw0, ← hw1]
  clear hw0 hw1
  refine (runs_f _ _ _ rs _ hn hlen (h.now hb1)).mono ?_
  rintro e w2 ⟨a1, a2, a3, rfl, r1, r2, r3, b2⟩
  have T2 := T1.on b2 T1.lt
  have hlt := T1.lt
  have hb2 := Below.step hb1 b2
  obtain ⟨m0, m1, m2, mf, ml⟩ := T2
  have mf0 := mf 0
  have mf1 := mf 1
  have mf2 := mf 2
  have HM : Hid (rs.length = n) := hlen
  rw [hlen] at r1 r2 r3
  rw [hlen]
  clear hlen
  clear T1 b1 hb1 b2 e0 D h
  go_wp2_with fail
  refine bodyPost_ret (v := .agg #[.slice a1 n n, .slice a2 n n, .slice a3 n n]) ?_ rfl ?_
  · have T := ((Trip.set0 ⟨m0, m1, m2, mf, ml⟩ (.slice a1 n n)).set1 (.slice a2 n n)).set2 (.slice a3 n n)
    simp [results, Try.results13, go_sem, T.c0, T.c1, T.c2, Result.andThen]
  · unfold ReadC
    rw [HM.out]
    refine ⟨a1, a2, a3, rfl, ?_, ?_, ?_, ?_⟩
    · exact (((r1.set hlt _).set hlt _).set hlt _).mono (by omega)
    · exact (((r2.set hlt _).set hlt _).set hlt _).mono (by omega)
    · exact (((r3.set hlt _).set hlt _).set hlt _).mono (by omega)
    · exact ((hb2.setCell (Nat.le_succ _) _).setCell (Nat.le_succ _) _).setCell (Nat.le_succ _) _
end Go.Proofs.Qxb6620807a
