import Derived.Test.Qxb6620807aPts2
namespace Go.Proofs.Qxb6620807a
open Go.RowKit
set_option linter.unusedVariables false

/-- A context in memory, as three slices. -/
structure Cx where
  a1 : Option Addr
  a2 : Option Addr
  a3 : Option Addr
  n : Nat
  c1 : Nat
  c2 : Nat
  c3 : Nat
  S : Nat → ByteArray
  U : Nat → Int
  A : Nat → Option Addr
  L : Nat → Nat
  C : Nat → Nat
  F : Nat → Nat → Int
def Cx.At (c : Cx) (w : World) : Prop := Rows3 w c.a1 c.a2 c.a3 c.n c.S c.U c.A c.L c.C c.F
def Cx.OK (c : Cx) (M : Nat) : Prop := CtxN c.n c.S c.U c.L c.F M
def Cx.Has (c : Cx) (a : List UInt8) (x : Int) : Prop := HasF c.n c.S c.U c.L c.F a x
theorem Cx.At.below {c : Cx} {w w' : World} (h : c.At w) {B : Nat} (hB : w.heap.size ≤ B) (hb : Below B w w') : c.At w' := ⟨h.s.below hB hb, h.u.below hB hb, h.b.below hB hb, fun j hj => (h.f j hj).below hB hb⟩
theorem Cx.At.now {c : Cx} {w w' : World} (h : c.At w) (hb : Below w.heap.size w w') : c.At w' := h.below (Nat.le_refl _) hb
abbrev Cx.val (c : Cx) : Value := .agg #[.slice c.a1 c.n c.c1, .slice c.a2 c.n c.c2, .slice c.a3 c.n c.c3]
abbrev Cx.Box (c : Cx) (w : World) (g : Nat) : Prop := Trip w g (.slice c.a1 c.n c.c1) (.slice c.a2 c.n c.c2) (.slice c.a3 c.n c.c3)

def Said (b : Bool) (w w' : World) (e : Ending) : Prop := e = .returned (.bool b) ∧ Below w.heap.size w w'
theorem cx_has (c : Cx) (M : Nat) (a : ByteArray) (x : Int) (b : Bool) (w : World) (hG : c.OK M) (h : c.At w) (hb : b = true ↔ c.Has a.toList x) :
    Calls Try.prog 34 #[c.val, .string a, .int .u64 x] w (fun e w' => Said b w w' e) := by
  refine (has_f c.a1 c.a2 c.a3 c.n c.c1 c.c2 c.c3 c.S c.U c.A c.L c.C c.F a x w hG.ok h).mono ?_
  rintro e w' ⟨b', rfl, hb', hbel⟩
  refine ⟨ret_bool ?_, hbel⟩
  have : b' = true ↔ b = true := hb'.trans hb.symm
  cases b <;> cases b' <;> simp_all
theorem cx_points (c : Cx) (M : Nat) (B : Nat) (w0 w : World) (v : Value) (N : Nat) (a : ByteArray) (hN : N ≤ 1073741824) (hM : M ≤ 16777216) (hB : w0.heap.size ≤ B) (hBw : B ≤ w.heap.size) (hb : Below B w0 w) (hG : c.OK M) (h : c.At w0) (hp : Pts B w v N) :
    Calls Try.prog 33 #[v, c.val, .string a] w (fun e w' => Pointed B w0 (N + 3 + 2 * M) w' e) :=
  points_f B w0 w v N M c.a1 c.a2 c.a3 c.n c.c1 c.c2 c.c3 c.S c.U c.A c.L c.C c.F a hN hM hB hBw hb hG h hp

theorem box_step (w : World) (x y z : Value) (t : TypeId) : ∃ w', w.alloc (.cells #[x, y, z] t) = w' ∧ w'.heap.size = w.heap.size + 1 ∧ Below w.heap.size w w' ∧ Trip w' w.heap.size x y z :=
  ⟨_, rfl, by rw [Go.Deep.nblk_alloc], (Below.refl _ _).alloc (Nat.le_refl _) _, trip _ _ _ _ _⟩

structure Boxes5 (w w1 : World) (l r p q s : Cx) : Prop where
  size : w1.heap.size = w.heap.size + 5
  below : Below w.heap.size w w1
  bl : l.Box w1 w.heap.size
  br : r.Box w1 (w.heap.size + 1)
  bp : p.Box w1 (w.heap.size + 1 + 1)
  bq : q.Box w1 (w.heap.size + 1 + 1 + 1)
  bs : s.Box w1 (w.heap.size + 1 + 1 + 1 + 1)
abbrev Cx.obj (c : Cx) : Obj := .cells #[.slice c.a1 c.n c.c1, .slice c.a2 c.n c.c2, .slice c.a3 c.n c.c3] 30
theorem boxes5 (w : World) (l r p q s : Cx) : Boxes5 w (((((w.alloc l.obj).alloc r.obj).alloc p.obj).alloc q.obj).alloc s.obj) l r p q s := by
  obtain ⟨wa, ea, sa, ba, ta⟩ := box_step w (.slice l.a1 l.n l.c1) (.slice l.a2 l.n l.c2) (.slice l.a3 l.n l.c3) 30
  obtain ⟨wb, eb, sb, bb, tb⟩ := box_step wa (.slice r.a1 r.n r.c1) (.slice r.a2 r.n r.c2) (.slice r.a3 r.n r.c3) 30
  obtain ⟨wc, ec, sc, bc, tc⟩ := box_step wb (.slice p.a1 p.n p.c1) (.slice p.a2 p.n p.c2) (.slice p.a3 p.n p.c3) 30
  obtain ⟨wd, ed, sd, bd, td⟩ := box_step wc (.slice q.a1 q.n q.c1) (.slice q.a2 q.n q.c2) (.slice q.a3 q.n q.c3) 30
  obtain ⟨we, ee, se, be, te⟩ := box_step wd (.slice s.a1 s.n s.c1) (.slice s.a2 s.n s.c2) (.slice s.a3 s.n s.c3) 30
  rw [ea, eb, ec, ed, ee]
  rw [sa] at tb
  rw [sb, sa] at tc
  rw [sc, sb, sa] at td
  rw [sd, sc, sb, sa] at te
  refine ⟨by omega, Below.step (Below.step (Below.step (Below.step ba bb) bc) bd) be, ?_, ?_, ?_, ?_, te⟩
  · exact (((ta.on bb (by omega)).on bc (by omega)).on bd (by omega)).on be (by omega)
  · exact ((tb.on bc (by omega)).on bd (by omega)).on be (by omega)
  · exact (tc.on bd (by omega)).on be (by omega)
  · exact td.on be (by omega)

/-- What the walks need of the five boxes in a later world. -/
structure See5 (w w1 wx : World) (l r p q s : Cx) : Prop where
  below : Below w1.heap.size w1 wx
  bl : l.Box wx w.heap.size
  br : r.Box wx (w.heap.size + 1)
  bp : p.Box wx (w.heap.size + 1 + 1)
  bq : q.Box wx (w.heap.size + 1 + 1 + 1)
  bs : s.Box wx (w.heap.size + 1 + 1 + 1 + 1)
theorem Boxes5.see {w w1 wx : World} {l r p q s : Cx} (h : Boxes5 w w1 l r p q s) (hb : Below w1.heap.size w1 wx) : See5 w w1 wx l r p q s := by
  have := h.size
  exact ⟨hb, h.bl.on hb (by omega), h.br.on hb (by omega), h.bp.on hb (by omega), h.bq.on hb (by omega), h.bs.on hb (by omega)⟩

/-- Points, cut to none. -/
theorem pts_form {B : Nat} {w : World} {v : Value} {N : Nat} (h : Pts B w v N) : (v = .slice none 0 0) ∨ ∃ g k cap, v = .slice (some ⟨g, 0, none⟩) k cap ∧ k ≤ cap ∧ cap ≤ maxLen ∧ Pts B w (.slice (some ⟨g, 0, none⟩) 0 cap) 0 := by
  obtain ⟨k, xs, hk, ho, hx⟩ := h
  rcases ho.2 with ⟨h1, _⟩ | ⟨g, cap, cur, h1, h2, h3, h4, h5, h6, h7⟩
  · exact Or.inl h1
  · refine Or.inr ⟨g, k, cap, h1, h4, h5, 0, [], Nat.le_refl _, ⟨by simp, Or.inr ⟨g, cap, cur, rfl, h2, h3, Nat.zero_le _, h5, h6, by simp⟩⟩, fun x hx => by simp at hx⟩
end Go.Proofs.Qxb6620807a
