import Derived.Test.Qxb6620807aJoin
import Derived.Deep.CutBlock
namespace Go.Proofs.Qxb6620807a
open Go.RowKit
set_option linter.unusedVariables false

theorem drop_at {α : Type} {l : List α} {i : Nat} (h : i < l.length) : l.drop i = l[i] :: l.drop (i + 1) := List.drop_eq_getElem_cons h
theorem cmp_lt {a b : ByteArray} : Lib.compareBytes a.data.toList b.data.toList < 0 ↔ slt a.toList b.toList := by rw [compare_lt, ByteArray.toList_eq, ByteArray.toList_eq]
theorem cmp_gt {a b : ByteArray} : 0 < Lib.compareBytes a.data.toList b.data.toList ↔ slt b.toList a.toList := by rw [compare_gt, ByteArray.toList_eq, ByteArray.toList_eq]

/-- A run's three cells. -/
def At3 (w : World) (b o : Nat) (r : Rw) : Prop := w.cell? ⟨b, o, none⟩ = some (.string r.s) ∧ w.cell? ⟨b, o + 1, none⟩ = some (.int .u64 r.u) ∧ w.cell? ⟨b, o + 2, none⟩ = some (.slice r.a r.X.length r.c)
theorem CtxR.at3 {w : World} {a : Option Addr} {c : Nat} {ts : List Rw} {N : Nat} (h : CtxR w a c ts N) (hne : 0 < ts.length) : ∃ b off, a = some ⟨b, off, none⟩ ∧ b < w.heap.size ∧ ∀ i (hi : i < ts.length), At3 w b (off + i * 3) ts[i] := by
  obtain ⟨b, off, h1, h2⟩ := h.runs
  have e := h1 (by simpa using hne)
  have key : ∀ i (hi : i < ts.length), At3 w b (off + i * 3) ts[i] := fun i hi => by
    have := h2 i ts[i].raw (by simp [List.getElem?_eq_getElem hi])
    exact this
  exact ⟨b, off, e, World.block_lt_of_cell? _ _ (key 0 hne).1, key⟩
theorem At3.on {w w' : World} {b o : Nat} {r : Rw} (h : At3 w b o r) {B : Nat} (hb : Below B w w') (hB : b < B) : At3 w' b o r := by
  refine ⟨?_, ?_, ?_⟩
  · rw [hb.cell (p := ⟨b, o, none⟩) hB]; exact h.1
  · rw [hb.cell (p := ⟨b, o + 1, none⟩) hB]; exact h.2.1
  · rw [hb.cell (p := ⟨b, o + 2, none⟩) hB]; exact h.2.2

theorem making_one {lo g : Nat} (hlo : lo ≤ g) {w w' : World} {o : Obj} {cc : Nat} {R : List Rw} {N : Nat} {r : Rw} (h : Making lo g w cc R N) (hr : RunOff lo g w r.u r.a r.c r.X) (hN : r.X.length ≤ N) (hg : (w.alloc o).grownBy w' (some g))
    (own : w'.ownsRow g 54 3 (.slice (some ⟨g, 0, none⟩) (R.length + 1) cc) (R.length + 1) (rcells (R.map Rw.raw) ++ rcell r.raw)) : Making lo g w' cc (R ++ [r]) N := by
  have hb : Below w.heap.size w (w.alloc o) := (Below.refl _ _).alloc (Nat.le_refl _) _
  refine (h.now hb).more hlo hg (T := [r]) (fun t ht => ?_) (fun t ht => ?_) ?_
  · simp at ht; subst ht; exact hr.now hb
  · simp at ht; subst ht; exact hN
  · have e : rcells ([r].map Rw.raw) = rcell r.raw := by simp [rcells]
    rw [e]; exact own

theorem below_row {w1 w w' : World} {o : Obj} {g : Nat} (h : Below g w1 w) (hg : g ≤ w.heap.size) (k : (w.alloc o).grownBy w' (some g)) : Below g w1 w' :=
  (h.alloc hg o).grown k (by rw [Go.Deep.nblk_alloc]; omega) (fun x hx => by cases hx; exact Nat.le_refl _)

/-- The runs from place i on, behind the address that [i:] hands back. -/
theorem rest_at {w : World} {b o : Nat} {rs : List Raw} (h : RunsAt w (some ⟨b, o, none⟩) rs) (hne : 0 < rs.length) (c i : Nat) (hc : rs.length ≤ c) :
    ∃ ad : Addr, (if c = i then (some ⟨b, o, none⟩ : Option Addr) else some ⟨b, o + i * 3, none⟩) = some ad ∧ ∀ k u, (rcells (rs.drop i))[k]? = some u → w.cell? (ad.add k) = some u := by
  obtain ⟨b', off, h1, h2⟩ := h
  have e := h1 hne
  simp only [Option.some.injEq, Addr.mk.injEq] at e
  obtain ⟨rfl, rfl, _⟩ := e
  by_cases hci : c = i
  · refine ⟨_, by rw [if_pos hci], fun k u hk => ?_⟩
    rw [List.drop_eq_nil_of_le (by omega)] at hk
    simp [rcells] at hk
  · exact ⟨_, by rw [if_neg hci], runs_rest h2 i⟩
theorem rest_at' {w : World} {b o : Nat} {rs : List Raw} (h : RunsAt w (some ⟨b, o, none⟩) rs) (hne : 0 < rs.length) (c i : Nat) (hc : rs.length ≤ c) :
    ∃ ad : Addr, (if c = i then (some ⟨b, o, none⟩ : Option Addr) else some ⟨b, o + i * 3, none⟩) = some ad ∧ ∀ wq, Below w.heap.size w wq → ∀ k u, (rcells (rs.drop i))[k]? = some u → wq.cell? (ad.add k) = some u := by
  by_cases hci : c = i
  · refine ⟨_, by rw [if_pos hci], fun wq _ k u hk => ?_⟩
    rw [List.drop_eq_nil_of_le (by omega)] at hk
    simp [rcells] at hk
  · refine ⟨⟨b, o + i * 3, none⟩, by rw [if_neg hci], fun wq hq => ?_⟩
    obtain ⟨ad, h1, h2⟩ := rest_at (h.now hq) hne c i hc
    rw [if_neg hci] at h1
    cases h1
    exact h2

/-- Where Join's loop stands. -/
structure JoinAt (lo G : Nat) (w1 wr : World) (cc : Nat) (ts us R : List Rw) (i j N : Nat) : Prop where
  hlo : lo ≤ G
  hi : i ≤ ts.length
  hj : j ≤ us.length
  making : Making lo G wr cc R N
  below : Below G w1 wr
  size : G ≤ wr.heap.size
  room : R.length + (ts.length - i) + (us.length - j) ≤ cc
  st : JoinState (ts.map Rw.rn) (us.map Rw.rn) (R.map Rw.rn) ((ts.drop i).map Rw.rn) ((us.drop j).map Rw.rn)

theorem JoinAt.drewN {lo G : Nat} {w1 wr : World} {cc : Nat} {ts us R : List Rw} {i j N : Nat} (h : JoinAt lo G w1 wr cc ts us R i j N) (q : Nat) : JoinAt lo G w1 (wr.drewN q) cc ts us R i j N :=
  ⟨h.hlo, h.hi, h.hj, h.making.now (below_drewN (Below.refl _ _) q), below_drewN h.below q, h.size, h.room, h.st⟩

theorem JoinAt.left {lo G : Nat} {w1 wr w' : World} {o : Obj} {cc : Nat} {ts us R : List Rw} {i j N : Nat} (h : JoinAt lo G w1 wr cc ts us R i j N) (hi : i < ts.length) (hj : j < us.length) (hlt : slt ts[i].s.toList us[j].s.toList)
    (hr : RunOff lo G wr ts[i].u ts[i].a ts[i].c ts[i].X) (hN : ts[i].X.length ≤ N) (hg : (wr.alloc o).grownBy w' (some G))
    (own : w'.ownsRow G 54 3 (.slice (some ⟨G, 0, none⟩) (R.length + 1) cc) (R.length + 1) (rcells (R.map Rw.raw) ++ rcell ts[i].raw)) : JoinAt lo G w1 w' cc ts us (R ++ [ts[i]]) (i + 1) j N := by
  refine ⟨h.hlo, hi, h.hj, making_one h.hlo h.making hr hN hg own, below_row h.below h.size hg, ?_, ?_, ?_⟩
  · have := hg.size; rw [Go.Deep.nblk_alloc] at this; have := h.size; omega
  · have := h.room; rw [List.length_append, List.length_singleton]; omega
  · have st := h.st
    rw [drop_at hi, drop_at hj, List.map_cons, List.map_cons] at st
    rw [List.map_append, drop_at hj, List.map_cons]
    exact st.left (st.head_lt hlt)
theorem JoinAt.right {lo G : Nat} {w1 wr w' : World} {o : Obj} {cc : Nat} {ts us R : List Rw} {i j N : Nat} (h : JoinAt lo G w1 wr cc ts us R i j N) (hi : i < ts.length) (hj : j < us.length) (hlt : slt us[j].s.toList ts[i].s.toList)
    (hr : RunOff lo G wr us[j].u us[j].a us[j].c us[j].X) (hN : us[j].X.length ≤ N) (hg : (wr.alloc o).grownBy w' (some G))
    (own : w'.ownsRow G 54 3 (.slice (some ⟨G, 0, none⟩) (R.length + 1) cc) (R.length + 1) (rcells (R.map Rw.raw) ++ rcell us[j].raw)) : JoinAt lo G w1 w' cc ts us (R ++ [us[j]]) i (j + 1) N := by
  refine ⟨h.hlo, h.hi, hj, making_one h.hlo h.making hr hN hg own, below_row h.below h.size hg, ?_, ?_, ?_⟩
  · have := hg.size; rw [Go.Deep.nblk_alloc] at this; have := h.size; omega
  · have := h.room; rw [List.length_append, List.length_singleton]; omega
  · have st := h.st
    rw [drop_at hi, drop_at hj, List.map_cons, List.map_cons] at st
    rw [List.map_append, drop_at hi, List.map_cons]
    exact st.right (st.flip.head_lt hlt)
theorem JoinAt.both {lo G : Nat} {w1 wr w3 w' : World} {o : Obj} {cc : Nat} {ts us R : List Rw} {i j N : Nat} (h : JoinAt lo G w1 wr cc ts us R i j N) (hi : i < ts.length) (hj : j < us.length) (he : ts[i].s.toList = us[j].s.toList)
    (hb3 : Below wr.heap.size wr w3) (t : Rw) (hts : t.s.toList = ts[i].s.toList) (hok : RunOK t.u t.X) (hin : ∀ x, inR t.u t.X x ↔ inR ts[i].u ts[i].X x ∨ inR us[j].u us[j].X x)
    (hr : RunOff lo G w3 t.u t.a t.c t.X) (hN : t.X.length ≤ N) (hg : (w3.alloc o).grownBy w' (some G))
    (own : w'.ownsRow G 54 3 (.slice (some ⟨G, 0, none⟩) (R.length + 1) cc) (R.length + 1) (rcells (R.map Rw.raw) ++ rcell t.raw)) : JoinAt lo G w1 w' cc ts us (R ++ [t]) (i + 1) (j + 1) N := by
  have hs3 : G ≤ w3.heap.size := Nat.le_trans h.size hb3.size
  refine ⟨h.hlo, hi, hj, making_one h.hlo (h.making.now hb3) hr hN hg own, below_row (h.below.trans (hb3.mono h.size)) hs3 hg, ?_, ?_, ?_⟩
  · have := hg.size; rw [Go.Deep.nblk_alloc] at this; omega
  · have := h.room; rw [List.length_append, List.length_singleton]; omega
  · have st := h.st
    rw [drop_at hi, drop_at hj, List.map_cons, List.map_cons] at st
    rw [List.map_append]
    refine st.both (t := t.rn) he hts ⟨hok, ?_⟩ hin
    intro hz hX
    obtain ⟨x, hx⟩ := (st.oka ts[i].rn (by simp)).some_in
    have := (hin x).2 (Or.inl hx)
    have hz : t.u = 0 := hz
    have hX : t.X = [] := hX
    rw [hz, hX] at this
    rcases this with k | k
    · omega
    · simp at k
theorem making_rest {lo G : Nat} {w wr w' : World} {a : Option Addr} {c cc i N M n : Nat} {ts R : List Rw} (hlo : lo ≤ G) (h : Making lo G wr cc R M) (H : CtxR w a c ts N) (hN : N ≤ M) (hw : w.heap.size ≤ lo) (hb : Below w.heap.size w wr) (hn : n = ts.length) (hg : wr.grownBy w' (some G))
    (own : w'.ownsRow G 54 3 (.slice (some ⟨G, 0, none⟩) (R.length + (n - i)) cc) (R.length + (n - i)) (rcells (R.map Rw.raw) ++ rcells ((ts.map Rw.raw).drop i))) : Making lo G w' cc (R ++ ts.drop i) M := by
  refine h.more hlo hg (T := ts.drop i) (fun t ht => ?_) (fun t ht => ?_) ?_
  · exact ((H.each t (List.mem_of_mem_drop ht)).off hw).now hb
  · exact Nat.le_trans (H.bnd t (List.mem_of_mem_drop ht)) hN
  · rw [List.length_drop, ← hn, List.map_drop]; exact own
theorem making_done {lo G cc N : Nat} {w w6 : World} {rs : List Rw} {p : Addr} {v : Value} {q : List Rn → Prop} (M : Making lo G w6 cc rs N) (h1 : lo ≤ p.block) (h2 : p.block < G) (hb : Below w.heap.size w w6) (hp : w.heap.size ≤ p.block) (hl : rs.length ≤ N) (hc : rs.length ≤ cc)
    (hv : Valid (rs.map Rw.rn)) (hq : q (rs.map Rw.rn)) : GaveC q N w (w6.setCell p v) (.returned (.agg #[.slice (some ⟨G, 0, none⟩) rs.length cc])) := by
  refine ⟨_, _, rs, rfl, ⟨?_, fun t ht => ((M.each t ht).set h1 (Nat.le_of_lt h2) v).at, M.bnd, hl, hc, hv⟩, hq, hb.setCell hp _⟩
  obtain ⟨a, c, e, _, _, hr⟩ := runsAt_of_own M.own
  cases e
  exact (hr.set h2 v).at
end Go.Proofs.Qxb6620807a
