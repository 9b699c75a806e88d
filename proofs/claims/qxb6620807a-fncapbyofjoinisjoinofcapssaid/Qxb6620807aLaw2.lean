import Derived.Test.Qxb6620807aLaw
namespace Go.Proofs.Qxb6620807a
open Go.RowKit
set_option linter.unusedVariables false

/-! A variable of three slices that may be laid at any point of a statement. -/
abbrev ZO : Obj := .cells #[.slice none 0 0, .slice none 0 0, .slice none 0 0] 30
def SliceBlk (w : World) (g : Nat) : Prop := ∀ j v, w.cell? ⟨g, j, none⟩ = some v → ∃ a n c, v = Value.slice a n c
structure Var (w : World) (g : Nat) : Prop where
  trip : Trip w g (.slice none 0 0) (.slice none 0 0) (.slice none 0 0)
  blk : SliceBlk w g
theorem Var.on {w w' : World} {g : Nat} (h : Var w g) (hb : Below w.heap.size w w') : Var w' g :=
  ⟨h.trip.on hb h.trip.lt, fun j v hj => h.blk j v (by rw [← hj]; exact (hb.cell (p := ⟨g, j, none⟩) h.trip.lt).symm)⟩
theorem var_new (w : World) : Var (w.alloc ZO) w.heap.size := by
  refine ⟨trip _ _ _ _ _, fun j v hj => ?_⟩
  match j, hj with
  | 0, hj => simp at hj; exact ⟨_, _, _, hj.symm⟩
  | 1, hj => simp at hj; exact ⟨_, _, _, hj.symm⟩
  | 2, hj => simp at hj; exact ⟨_, _, _, hj.symm⟩
  | j + 3, hj => simp at hj
theorem var_on {v w' : World} (b : Below (v.alloc ZO).heap.size (v.alloc ZO) w') : Var w' v.heap.size := (var_new v).on b

theorem var_on_d {v w' : World} (b : Below (v.alloc ZO).drew.heap.size (v.alloc ZO).drew w') : Var w' v.heap.size := (show Var (v.alloc ZO).drew v.heap.size from ⟨⟨(var_new v).trip.c0, (var_new v).trip.c1, (var_new v).trip.c2, (var_new v).trip.fr, (var_new v).trip.lt⟩, (var_new v).blk⟩).on b
theorem pack {w6 v : World} (b : Below w6.heap.size w6 v) {g : Nat} {x y z : Value} (T : Trip w6 g x y z) :
    v.cell? ⟨g, 0, none⟩ = some x ∧ v.cell? ⟨g, 1, none⟩ = some y ∧ v.cell? ⟨g, 2, none⟩ = some z ∧ (v.alloc ZO).cell? ⟨g, 0, none⟩ = some x ∧ (v.alloc ZO).cell? ⟨g, 1, none⟩ = some y ∧ (v.alloc ZO).cell? ⟨g, 2, none⟩ = some z ∧ Below w6.heap.size w6 (v.alloc ZO) := by
  have t1 := T.on b T.lt
  have b2 : Below v.heap.size v (v.alloc ZO) := (Below.refl _ _).alloc (Nat.le_refl _) _
  have t2 := t1.on b2 t1.lt
  exact ⟨t1.c0, t1.c1, t1.c2, t2.c0, t2.c1, t2.c2, Below.step b b2⟩

theorem row_off_var {w : World} {g : Nat} (hv : Var w g) {a : Option Addr} {n : Nat} {f : Nat → Value} (h : RowAt w a n f) (hf : ∀ j, j < n → ∀ x y z, f j ≠ .slice x y z) (o : Nat) (u : Value) : RowAt (w.setCell ⟨g, o, none⟩ u) a n f := by
  obtain ⟨b, off, h1, h2⟩ := h
  refine ⟨b, off, h1, fun j hj => ?_⟩
  have hne : b ≠ g := by
    intro e
    subst e
    obtain ⟨x, y, z, e⟩ := hv.blk _ _ (h2 j hj)
    exact hf j hj x y z e
  have hb : (w.setCell ⟨g, o, none⟩ u).heap[b]? = w.heap[b]? := Go.Deep.blk_setCell_other _ _ _ _ hne
  rw [World.cell?_of_block (w := w) (a := ⟨b, off + j, none⟩) hb]; exact h2 j hj
theorem row_off_vars {w : World} {g : Nat} (hv : Var w g) {a : Option Addr} {n : Nat} {f : Nat → Value} (h : RowAt w a n f) (hf : ∀ j, j < n → ∀ x y z, f j ≠ .slice x y z) (u v x : Value) :
    RowAt (((w.setCell ⟨g, 0, none⟩ u).setCell ⟨g, 1, none⟩ v).setCell ⟨g, 2, none⟩ x) a n f := by
  obtain ⟨b, off, h1, h2⟩ := h
  refine ⟨b, off, h1, fun j hj => ?_⟩
  have hne : b ≠ g := by
    intro e
    subst e
    obtain ⟨x, y, z, e⟩ := hv.blk _ _ (h2 j hj)
    exact hf j hj x y z e
  have hb : (((w.setCell ⟨g, 0, none⟩ u).setCell ⟨g, 1, none⟩ v).setCell ⟨g, 2, none⟩ x).heap[b]? = w.heap[b]? := by
    rw [Go.Deep.blk_setCell_other _ _ _ _ hne, Go.Deep.blk_setCell_other _ _ _ _ hne, Go.Deep.blk_setCell_other _ _ _ _ hne]
  rw [World.cell?_of_block (w := w) (a := ⟨b, off + j, none⟩) hb]; exact h2 j hj

/-- zzRead, and where the row of slices lies. -/
theorem read_cx' {w : World} {a : Option Addr} {c N : Nat} {rs : List Rw} (h : CtxR w a c rs N) (hN : N ≤ 16777216) :
    Calls Try.prog 13 #[.agg #[.slice a rs.length c]] w (fun e w' => ∃ a1 a2 a3, e = .returned (cxOf a1 a2 a3 rs).val ∧ (cxOf a1 a2 a3 rs).At w' ∧ (∀ g, g < w.heap.size → RowOff g w' a3 rs.length (fun j => .slice ((cxOf a1 a2 a3 rs).A j) ((cxOf a1 a2 a3 rs).L j) ((cxOf a1 a2 a3 rs).C j))) ∧ Below w.heap.size w w') := by
  refine (read_f a rs.length c (rs.map Rw.raw) w (Nat.le_trans h.len hN) (List.length_map _) h.runs).mono ?_
  rintro e w' ⟨a1, a2, a3, rfl, r1, r2, r3, hb⟩
  rw [List.length_map] at r1 r2 r3
  refine ⟨a1, a2, a3, by rw [List.length_map]; rfl, cxOf_at (h.now hb) r1.at r2.at r3.at, fun g hg => ?_, hb⟩
  have e : ∀ j, (rs.map Rw.raw).getD j dr = (rs.getD j drw).raw := fun j => by
    rw [List.getD_eq_getElem?_getD, List.getD_eq_getElem?_getD, List.getElem?_map]
    cases rs[j]? <;> rfl
  simp only [e] at r3
  obtain ⟨b, off, h0, h1, h2⟩ := r3
  exact ⟨b, off, by omega, h1, h2⟩

/-- The context laid into the variable. -/
theorem store_cx {c : Cx} {w : World} {g : Nat} (h : c.At w) (hv : Var w g) (h3 : RowOff g w c.a3 c.n (fun j => .slice (c.A j) (c.L j) (c.C j))) :
    c.Box (((w.setCell ⟨g, 0, none⟩ (.slice c.a1 c.n c.c1)).setCell ⟨g, 1, none⟩ (.slice c.a2 c.n c.c2)).setCell ⟨g, 2, none⟩ (.slice c.a3 c.n c.c3)) g ∧
    c.At (((w.setCell ⟨g, 0, none⟩ (.slice c.a1 c.n c.c1)).setCell ⟨g, 1, none⟩ (.slice c.a2 c.n c.c2)).setCell ⟨g, 2, none⟩ (.slice c.a3 c.n c.c3)) :=
  ⟨((hv.trip.set0 _).set1 _).set2 _, row_off_vars hv h.s (fun j _ x y z k => by cases k) _ _ _, row_off_vars hv h.u (fun j _ x y z k => by cases k) _ _ _, (((h3.set 0 _).set 1 _).set 2 _).at, fun j hj => row_off_vars hv (h.f j hj) (fun j _ x y z k => by cases k) _ _ _⟩
theorem below_stores {w6 w : World} {g : Nat} (b : Below w6.heap.size w6 w) (hg : w6.heap.size ≤ g) (x y z : Value) : Below w6.heap.size w6 (((w.setCell ⟨g, 0, none⟩ x).setCell ⟨g, 1, none⟩ y).setCell ⟨g, 2, none⟩ z) :=
  ((b.setCell (p := ⟨g, 0, none⟩) hg _).setCell (p := ⟨g, 1, none⟩) hg _).setCell (p := ⟨g, 2, none⟩) hg _
/-- What a law reads back: a context in the variable. -/
def Res (p : List Rn → Prop) (N : Nat) (w6 : World) (v : Value) (wx : World) : Prop := ∃ r1 r2 r3 rs g, v = .pointer (some ⟨g, 0, none⟩) ∧ Cx.Box (cxOf r1 r2 r3 rs) wx g ∧ (cxOf r1 r2 r3 rs).At wx ∧ (cxOf r1 r2 r3 rs).Good N ∧ p (rs.map Rw.rn) ∧ Below w6.heap.size w6 wx
theorem res_last {p : List Rn → Prop} {N : Nat} {w6 wR : World} {r1 r2 r3 : Option Addr} {rs : List Rw} (hA : (cxOf r1 r2 r3 rs).At wR) (hG : ∀ r1 r2 r3, (cxOf r1 r2 r3 rs).Good N) (hp : p (rs.map Rw.rn)) (b : Below w6.heap.size w6 wR) : Res p N w6 (.pointer (some ⟨wR.heap.size, 0, none⟩)) (wR.alloc (cxOf r1 r2 r3 rs).obj) := by
  have ba : Below wR.heap.size wR (wR.alloc (cxOf r1 r2 r3 rs).obj) := (Below.refl _ _).alloc (Nat.le_refl _) _
  exact ⟨r1, r2, r3, rs, wR.heap.size, rfl, trip _ _ _ _ _, hA.now ba, hG _ _ _, hp, Below.step b ba⟩
theorem res_early {p : List Rn → Prop} {N : Nat} {w6 wR : World} {r1 r2 r3 : Option Addr} {rs : List Rw} {g : Nat} (hA : (cxOf r1 r2 r3 rs).At wR) (hG : ∀ r1 r2 r3, (cxOf r1 r2 r3 rs).Good N) (hp : p (rs.map Rw.rn)) (b : Below w6.heap.size w6 wR) (hv : Var wR g) (hg : w6.heap.size ≤ g)
    (h3 : RowOff g wR r3 rs.length (fun j => .slice ((cxOf r1 r2 r3 rs).A j) ((cxOf r1 r2 r3 rs).L j) ((cxOf r1 r2 r3 rs).C j))) :
    Res p N w6 (.pointer (some ⟨g, 0, none⟩)) (((wR.setCell ⟨g, 0, none⟩ (.slice r1 rs.length rs.length)).setCell ⟨g, 1, none⟩ (.slice r2 rs.length rs.length)).setCell ⟨g, 2, none⟩ (.slice r3 rs.length rs.length)) := by
  obtain ⟨k1, k2⟩ := store_cx hA hv h3
  exact ⟨r1, r2, r3, rs, g, rfl, k1, k2, hG _ _ _, hp, below_stores b hg _ _ _⟩
end Go.Proofs.Qxb6620807a
