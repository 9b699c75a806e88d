import Derived.Test.Qxb6620807aValid
import Derived.Deep.RegionLaw
import Derived.Deep.OwnRows
import Derived.OwnWalk
namespace Go.Proofs.Qxb6620807a
open Go.RowKit
set_option linter.unusedVariables false

/-- 'append' to a row of the call's own, as one step of a region that draws its order. -/
theorem step_append_own {P : Program} {ops : Array Oper} {o : Oper} {a : Act} {w : World} {K : Act → World → Prop} {Q : Exit → Act → World → Prop} {E : Prop}
    (hg : o.guard = none) (s x : Operand) (t : TypeId) (ho : o.op = Op.call { callee := Callee.builtin Builtin.append, args := #[s, x], argTypes := #[t, t] })
    (base : Nat) (e : TypeId) (i : TypeInfo) (z : Value) (size bytes : Nat) (ht : P.underlying t = some (.slice e)) (hi : P.info? e = some i) (hz : i.zero = some z)
    (hsize : i.size = size) (hby : i.bytes = bytes) (hzs : z.cells.size = size) (hsz : 0 < size)
    (v : Value) (n : Nat) (xs : List Value) (hs : a.eval s = v) (hown : w.ownsRow base e size v n xs)
    (ad : Addr) (m c : Nat) (news : List Value) (hx : a.eval x = .slice (some ad) m c) (hl : news.length = m * size) (hnews : ∀ j u, news[j]? = some u → w.cell? (ad.add j) = some u) (h1 : ∀ u ∈ news, u.oneCell' = true)
    (h63 : n + m ≤ maxLen) (hbytes : (n + m) * bytes ≤ 140737488355328) (hbase : base ≤ w.heap.size)
    (h : ∀ v' w', w'.ownsRow base e size v' (n + m) (xs ++ news) → w.grownBy w' v.ownBlock → (v' = .slice none 0 0 ↔ v = .slice none 0 0 ∧ m = 0) → K (a.put o.dst v') w') :
    if Region.wanted o (yielded ops a.tmps) = true then Oper.wp P o a w K Q else E := by
  have hw : Region.wanted o (yielded ops a.tmps) = true := by simp [Region.wanted, hg]
  rw [if_pos hw]
  exact wp_append_own w s x t ho base e i z size bytes ht hi hz hsize hby hzs hsz v n xs hs hown ad m c news hx hl hnews h1 h63 hbytes hbase h

/-- A run as it lies in memory: actor, upTo, the slice above. -/
abbrev Raw := ByteArray × Int × Option Addr × Nat × Nat
def rcell (r : Raw) : List Value := [.string r.1, .int .u64 r.2.1, .slice r.2.2.1 r.2.2.2.1 r.2.2.2.2]
def rcells (rs : List Raw) : List Value := rs.flatMap rcell
theorem rcells_append (rs ts : List Raw) : rcells (rs ++ ts) = rcells rs ++ rcells ts := List.flatMap_append
theorem rcells_length : ∀ rs : List Raw, (rcells rs).length = rs.length * 3
  | [] => rfl
  | r :: rs => by
    have := rcells_length rs
    simp only [rcells, List.flatMap_cons, List.length_append, List.length_cons] at this ⊢
    simp only [rcell, List.length_cons, List.length_nil]
    omega
theorem rcells_at : ∀ (rs : List Raw) (j : Nat) (r : Raw), rs[j]? = some r → (rcells rs)[j * 3]? = some (.string r.1) ∧ (rcells rs)[j * 3 + 1]? = some (.int .u64 r.2.1) ∧ (rcells rs)[j * 3 + 2]? = some (.slice r.2.2.1 r.2.2.2.1 r.2.2.2.2)
  | [], j, r, h => by simp at h
  | s :: rs, 0, r, h => by
    simp only [List.getElem?_cons_zero, Option.some.injEq] at h
    subst h
    simp [rcells, rcell]
  | s :: rs, j + 1, r, h => by
    simp only [List.getElem?_cons_succ] at h
    have ih := rcells_at rs j r h
    have e : rcells (s :: rs) = rcell s ++ rcells rs := by simp [rcells]
    have hl : (rcell s).length = 3 := rfl
    rw [e]
    refine ⟨?_, ?_, ?_⟩
    · rw [List.getElem?_append_right (by omega), hl, show (j + 1) * 3 - 3 = j * 3 from by omega]; exact ih.1
    · rw [List.getElem?_append_right (by omega), hl, show (j + 1) * 3 + 1 - 3 = j * 3 + 1 from by omega]; exact ih.2.1
    · rw [List.getElem?_append_right (by omega), hl, show (j + 1) * 3 + 2 - 3 = j * 3 + 2 from by omega]; exact ih.2.2

/-- Runs behind a slice's address. -/
def RunsAt (w : World) (a : Option Addr) (rs : List Raw) : Prop :=
  ∃ b off, (0 < rs.length → a = some ⟨b, off, none⟩) ∧ ∀ j r, rs[j]? = some r → w.cell? ⟨b, off + j * 3, none⟩ = some (.string r.1) ∧ w.cell? ⟨b, off + j * 3 + 1, none⟩ = some (.int .u64 r.2.1) ∧ w.cell? ⟨b, off + j * 3 + 2, none⟩ = some (.slice r.2.2.1 r.2.2.2.1 r.2.2.2.2)
theorem RunsAt.now {w w' : World} {a : Option Addr} {rs : List Raw} (h : RunsAt w a rs) (hb : Below w.heap.size w w') : RunsAt w' a rs := by
  obtain ⟨b, off, ha, hc⟩ := h
  refine ⟨b, off, ha, fun j r hj => ?_⟩
  obtain ⟨h1, h2, h3⟩ := hc j r hj
  have hb0 := World.block_lt_of_cell? _ _ h1
  refine ⟨?_, ?_, ?_⟩
  · rw [hb.cell (p := ⟨b, off + j * 3, none⟩) hb0]; exact h1
  · rw [hb.cell (p := ⟨b, off + j * 3 + 1, none⟩) hb0]; exact h2
  · rw [hb.cell (p := ⟨b, off + j * 3 + 2, none⟩) hb0]; exact h3
theorem RunsAt.nil (w : World) (a : Option Addr) : RunsAt w a [] := ⟨0, 0, fun h => absurd h (by simp), fun j r h => by simp at h⟩

/-- .. in a block from B on. -/
def RunsFrom (B : Nat) (w : World) (a : Option Addr) (rs : List Raw) : Prop :=
  ∃ b off, B ≤ b ∧ (0 < rs.length → a = some ⟨b, off, none⟩) ∧ ∀ j r, rs[j]? = some r → w.cell? ⟨b, off + j * 3, none⟩ = some (.string r.1) ∧ w.cell? ⟨b, off + j * 3 + 1, none⟩ = some (.int .u64 r.2.1) ∧ w.cell? ⟨b, off + j * 3 + 2, none⟩ = some (.slice r.2.2.1 r.2.2.2.1 r.2.2.2.2)
theorem RunsFrom.at {B : Nat} {w : World} {a : Option Addr} {rs : List Raw} (h : RunsFrom B w a rs) : RunsAt w a rs := by
  obtain ⟨b, off, _, h1, h2⟩ := h; exact ⟨b, off, h1, h2⟩
theorem RunsFrom.mono {B B' : Nat} {w : World} {a : Option Addr} {rs : List Raw} (h : RunsFrom B w a rs) (hB : B' ≤ B) : RunsFrom B' w a rs := by
  obtain ⟨b, off, h0, h1, h2⟩ := h; exact ⟨b, off, Nat.le_trans hB h0, h1, h2⟩
theorem RunsFrom.set {B : Nat} {w : World} {a : Option Addr} {rs : List Raw} (h : RunsFrom B w a rs) {p : Addr} (hp : p.block < B) (u : Value) : RunsFrom B (w.setCell p u) a rs := by
  obtain ⟨b, off, h0, h1, h2⟩ := h
  refine ⟨b, off, h0, h1, fun j r hj => ?_⟩
  have hb : (w.setCell p u).heap[b]? = w.heap[b]? := Go.Deep.blk_setCell_other _ _ _ _ (by omega)
  obtain ⟨q1, q2, q3⟩ := h2 j r hj
  refine ⟨?_, ?_, ?_⟩
  · rw [World.cell?_of_block (w := w) (a := ⟨b, off + j * 3, none⟩) hb]; exact q1
  · rw [World.cell?_of_block (w := w) (a := ⟨b, off + j * 3 + 1, none⟩) hb]; exact q2
  · rw [World.cell?_of_block (w := w) (a := ⟨b, off + j * 3 + 2, none⟩) hb]; exact q3
theorem RunsFrom.nil (B : Nat) (w : World) (a : Option Addr) : RunsFrom B w a [] := ⟨B, 0, Nat.le_refl _, fun h => absurd h (by simp), fun j r h => by simp at h⟩

theorem runsAt_of_own {w : World} {B : Nat} {v : Value} {n : Nat} {rs : List Raw} (h : w.ownsRow B 54 3 v n (rcells rs)) : ∃ a c, v = .slice a n c ∧ n = rs.length ∧ n ≤ c ∧ RunsFrom B w a rs := by
  have hlen : n = rs.length := by have := h.1; rw [rcells_length] at this; omega
  rcases h.2 with ⟨rfl, h0⟩ | ⟨g, cap, cur, rfl, hb, hg, hcap, hmax, hsz, htake⟩
  · subst h0
    have : rs = [] := List.eq_nil_of_length_eq_zero hlen.symm
    subst this
    exact ⟨none, 0, rfl, rfl, Nat.le_refl _, RunsFrom.nil _ _ _⟩
  · refine ⟨_, _, rfl, hlen, hcap, g, 0, hb, fun _ => rfl, fun j r hj => ?_⟩
    have hc := World.ownsRow.cells h (g := g) rfl
    have key : ∀ k u, (rcells rs)[k]? = some u → w.cell? ⟨g, 0 + k, none⟩ = some u := by
      intro k u hk
      have := hc k u hk
      rw [show (Addr.add ⟨g, 0, none⟩ k) = ⟨g, 0 + k, none⟩ from by simp only [Addr.add]; split <;> simp_all] at this
      exact this
    obtain ⟨h1, h2, h3⟩ := rcells_at rs j r hj
    exact ⟨key _ _ h1, key _ _ h2, key _ _ h3⟩
end Go.Proofs.Qxb6620807a
