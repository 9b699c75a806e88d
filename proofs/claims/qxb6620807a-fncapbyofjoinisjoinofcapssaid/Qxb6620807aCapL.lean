import Derived.Test.Qxb6620807aCapBy
import Derived.Test.Qxb6620807aLaw2
import Derived.Test.Qxb6620807aCapA
namespace Go.Proofs.Qxb6620807a
open Go.RowKit
set_option linter.unusedVariables false

theorem last_top {c : Cx} {a : List UInt8} {m : Int} (h : c.Last a m) : Top c.lst a m := by
  rcases h with ⟨i, hi, e, rfl⟩ | ⟨hn, rfl⟩
  · refine Or.inl ⟨(mkRw c.S c.U c.A c.L c.C c.F i).rn, List.mem_map.2 ⟨_, mkRws_mem.2 ⟨i, hi, rfl⟩, rfl⟩, e, ?_⟩
    show lastV (c.U i) (c.L i) (c.F i) = lastV (c.U i) (col (c.L i) (c.F i)).length (ix (col (c.L i) (c.F i)))
    unfold lastV
    rw [col_length]
    split
    · rfl
    · rw [col_at (by omega)]
  · refine Or.inr ⟨fun r hr e => ?_, rfl⟩
    obtain ⟨t, ht, rfl⟩ := List.mem_map.1 hr
    obtain ⟨i, hi, rfl⟩ := mkRws_mem.1 ht
    exact hn i hi e

/-- CapBy's contract. -/
def CapCSpec : Prop := ∀ (a b : Option Addr) (c d : Nat) (ts us : List Rw) (N1 N2 : Nat) (w : World) (_ : N1 ≤ 4194304) (_ : N2 ≤ 4194304) (_ : CtxR w a c ts N1) (_ : CtxR w b d us N2),
    Calls Try.prog 20 #[.agg #[.slice a ts.length c], .agg #[.slice b us.length d]] w (fun e w' => GaveC (IsCut (ts.map Rw.rn) (us.map Rw.rn)) N1 w w' e)
theorem capC : CapCSpec := fun a b c d ts us N1 N2 w hN hN2 h1 h2 => capBy_f a b c d ts us N1 N2 w hN hN2 h1 h2

theorem far3 {w : World} {p : Addr} {x : Value} (h : w.cell? p = some x) {g : Nat} (hg : p.block ≠ g) (u v y : Value) : (((w.setCell ⟨g, 0, none⟩ u).setCell ⟨g, 1, none⟩ v).setCell ⟨g, 2, none⟩ y).cell? p = some x := by
  have hb : (((w.setCell ⟨g, 0, none⟩ u).setCell ⟨g, 1, none⟩ v).setCell ⟨g, 2, none⟩ y).heap[p.block]? = w.heap[p.block]? := by
    rw [Go.Deep.blk_setCell_other _ _ _ _ hg, Go.Deep.blk_setCell_other _ _ _ _ hg, Go.Deep.blk_setCell_other _ _ _ _ hg]
  rw [World.cell?_of_block hb]; exact h
theorem alloc_cell {w : World} {p : Addr} {x : Value} (h : w.cell? p = some x) (o : Obj) : (w.alloc o).cell? p = some x := by
  have b : Below w.heap.size w (w.alloc o) := (Below.refl _ _).alloc (Nat.le_refl _) _
  rw [b.cell (World.block_lt_of_cell? _ _ h)]; exact h
/-- Cells of the base world in a later one, and behind the variable's laying. -/
theorem pack1 {w6 v : World} (b : Below w6.heap.size w6 v) {p : Addr} {x : Value} (h : w6.cell? p = some x) : v.cell? p = some x ∧ (v.alloc ZO).cell? p = some x := by
  have h1 : v.cell? p = some x := by rw [b.cell (World.block_lt_of_cell? _ _ h)]; exact h
  exact ⟨h1, alloc_cell h1 _⟩
theorem belowZ {w6 v : World} (b : Below w6.heap.size w6 v) : Below w6.heap.size w6 (v.alloc ZO) := Below.step b ((Below.refl _ _).alloc (Nat.le_refl _) _)
/-- A variable of one slice. -/
theorem one_step (w : World) (x : Value) : ∃ w', w.alloc (.cells #[x] 35) = w' ∧ Below w.heap.size w w' ∧ w'.cell? ⟨w.heap.size, 0, none⟩ = some x := ⟨_, rfl, (Below.refl _ _).alloc (Nat.le_refl _) _, (cell1 w x 35).c0⟩
end Go.Proofs.Qxb6620807a
