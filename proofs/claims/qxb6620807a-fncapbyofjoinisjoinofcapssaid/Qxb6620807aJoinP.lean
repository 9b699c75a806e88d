import Derived.Test.Qxb6620807aJoinD
namespace Go.Proofs.Qxb6620807a
open Go.RowKit
set_option linter.unusedVariables false

/-! Two contexts being merged. -/
structure JoinState (l m R A B : List Rn) : Prop where
  sa : Sorted (R ++ A)
  sb : Sorted (R ++ B)
  ok : ∀ r ∈ R, RnOK r
  oka : ∀ r ∈ A, RnOK r
  okb : ∀ r ∈ B, RnOK r
  same : ∀ a x, (has R a x ∨ has A a x ∨ has B a x) ↔ (has l a x ∨ has m a x)

theorem has_nil (a : List UInt8) (x : Int) : ¬ has [] a x := by rintro ⟨r, hr, _⟩; simp at hr
theorem has_append (l m : List Rn) (a : List UInt8) (x : Int) : has (l ++ m) a x ↔ has l a x ∨ has m a x := by
  unfold has
  constructor
  · rintro ⟨r, hr, k⟩
    rcases List.mem_append.1 hr with h | h
    · exact Or.inl ⟨r, h, k⟩
    · exact Or.inr ⟨r, h, k⟩
  · rintro (⟨r, hr, k⟩ | ⟨r, hr, k⟩)
    · exact ⟨r, List.mem_append.2 (Or.inl hr), k⟩
    · exact ⟨r, List.mem_append.2 (Or.inr hr), k⟩
theorem has_one (r : Rn) (a : List UInt8) (x : Int) : has [r] a x ↔ r.1 = a ∧ inR r.2.1 r.2.2 x := by
  unfold has
  constructor
  · rintro ⟨s, hs, k⟩; simp at hs; subst hs; exact k
  · intro k; exact ⟨r, by simp, k⟩
theorem has_cons (r : Rn) (l : List Rn) (a : List UInt8) (x : Int) : has (r :: l) a x ↔ (r.1 = a ∧ inR r.2.1 r.2.2 x) ∨ has l a x := by
  rw [show r :: l = [r] ++ l from rfl, has_append, has_one]

theorem JoinState.start {l m : List Rn} (hl : Valid l) (hm : Valid m) : JoinState l m [] l m :=
  ⟨by simpa using hl.1, by simpa using hm.1, fun r hr => by simp at hr, hl.2, hm.2, fun a x => by
    constructor
    · rintro (h | h)
      · exact absurd h (has_nil _ _)
      · exact h
    · exact Or.inr⟩

theorem sorted_app {R A : List Rn} : Sorted (R ++ A) ↔ Sorted R ∧ Sorted A ∧ ∀ r ∈ R, ∀ s ∈ A, slt r.1 s.1 := by unfold Sorted; exact List.pairwise_append
theorem sorted_cons {r : Rn} {A : List Rn} : Sorted (r :: A) ↔ (∀ s ∈ A, slt r.1 s.1) ∧ Sorted A := by unfold Sorted; exact List.pairwise_cons

theorem JoinState.flip {l m R A B : List Rn} (h : JoinState l m R A B) : JoinState m l R B A :=
  ⟨h.sb, h.sa, h.ok, h.okb, h.oka, fun a x => by
    have := h.same a x
    constructor
    · rintro (k | k | k)
      · exact (this.1 (Or.inl k)).symm
      · exact (this.1 (Or.inr (Or.inr k))).symm
      · exact (this.1 (Or.inr (Or.inl k))).symm
    · intro k
      rcases this.2 k.symm with q | q | q
      · exact Or.inl q
      · exact Or.inr (Or.inr q)
      · exact Or.inr (Or.inl q)⟩

theorem JoinState.left {l m R A B : List Rn} {r : Rn} (h : JoinState l m R (r :: A) B) (hb : ∀ s ∈ B, slt r.1 s.1) : JoinState l m (R ++ [r]) A B := by
  obtain ⟨a1, a2, a3⟩ := sorted_app.1 h.sa
  obtain ⟨b1, b2, b3⟩ := sorted_app.1 h.sb
  obtain ⟨a4, a5⟩ := sorted_cons.1 a2
  refine ⟨by simpa using h.sa, ?_, ?_, fun s hs => h.oka s (by simp [hs]), h.okb, fun a x => ?_⟩
  · rw [sorted_app]
    refine ⟨?_, b2, ?_⟩
    · rw [sorted_app]; exact ⟨a1, List.pairwise_singleton _ _, fun s hs t ht => by simp at ht; subst ht; exact a3 s hs _ (by simp)⟩
    · intro s hs t ht
      rcases List.mem_append.1 hs with k | k
      · exact b3 s k t ht
      · simp at k; subst k; exact hb t ht
  · intro s hs
    rcases List.mem_append.1 hs with k | k
    · exact h.ok s k
    · simp at k; subst k; exact h.oka _ (by simp)
  · rw [← h.same a x, has_append, has_one, has_cons]
    constructor
    · rintro ((k | k) | k | k)
      · exact Or.inl k
      · exact Or.inr (Or.inl (Or.inl k))
      · exact Or.inr (Or.inl (Or.inr k))
      · exact Or.inr (Or.inr k)
    · rintro (k | (k | k) | k)
      · exact Or.inl (Or.inl k)
      · exact Or.inl (Or.inr k)
      · exact Or.inr (Or.inl k)
      · exact Or.inr (Or.inr k)
theorem JoinState.right {l m R A B : List Rn} {r : Rn} (h : JoinState l m R A (r :: B)) (ha : ∀ s ∈ A, slt r.1 s.1) : JoinState l m (R ++ [r]) A B := (h.flip.left ha).flip
theorem JoinState.head_lt {l m R A B : List Rn} {r s : Rn} (h : JoinState l m R (r :: A) (s :: B)) (hlt : slt r.1 s.1) : ∀ t ∈ s :: B, slt r.1 t.1 := by
  intro t ht
  rcases List.mem_cons.1 ht with rfl | k
  · exact hlt
  · exact slt_trans hlt ((sorted_cons.1 (sorted_app.1 h.sb).2.1).1 t k)

theorem JoinState.both {l m R A B : List Rn} {r s t : Rn} (h : JoinState l m R (r :: A) (s :: B)) (e : r.1 = s.1) (et : t.1 = r.1) (hok : RnOK t) (ht : ∀ x, inR t.2.1 t.2.2 x ↔ inR r.2.1 r.2.2 x ∨ inR s.2.1 s.2.2 x) :
    JoinState l m (R ++ [t]) A B := by
  obtain ⟨a1, a2, a3⟩ := sorted_app.1 h.sa
  obtain ⟨b1, b2, b3⟩ := sorted_app.1 h.sb
  obtain ⟨a4, a5⟩ := sorted_cons.1 a2
  obtain ⟨b4, b5⟩ := sorted_cons.1 b2
  have hR : Sorted (R ++ [t]) := by rw [sorted_app]; exact ⟨a1, List.pairwise_singleton _ _, fun q hq p hp => by simp at hp; subst hp; rw [et]; exact a3 q hq _ (by simp)⟩
  refine ⟨?_, ?_, ?_, fun q hq => h.oka q (by simp [hq]), fun q hq => h.okb q (by simp [hq]), fun a x => ?_⟩
  · rw [sorted_app]
    refine ⟨hR, a5, fun q hq p hp => ?_⟩
    rcases List.mem_append.1 hq with k | k
    · exact a3 q k p (by simp [hp])
    · simp at k; subst k; rw [et]; exact a4 p hp
  · rw [sorted_app]
    refine ⟨hR, b5, fun q hq p hp => ?_⟩
    rcases List.mem_append.1 hq with k | k
    · exact b3 q k p (by simp [hp])
    · simp at k; subst k; rw [et, e]; exact b4 p hp
  · intro q hq
    rcases List.mem_append.1 hq with k | k
    · exact h.ok q k
    · simp at k; subst k; exact hok
  · rw [← h.same a x, has_append, has_one, has_cons, has_cons, ht x, et]
    constructor
    · rintro ((k | ⟨k1, k2 | k2⟩) | k | k)
      · exact Or.inl k
      · exact Or.inr (Or.inl (Or.inl ⟨k1, k2⟩))
      · exact Or.inr (Or.inr (Or.inl ⟨e ▸ k1, k2⟩))
      · exact Or.inr (Or.inl (Or.inr k))
      · exact Or.inr (Or.inr (Or.inr k))
    · rintro (k | (⟨k1, k2⟩ | k) | (⟨k1, k2⟩ | k))
      · exact Or.inl (Or.inl k)
      · exact Or.inl (Or.inr ⟨k1, Or.inl k2⟩)
      · exact Or.inr (Or.inl k)
      · exact Or.inl (Or.inr ⟨e.trans k1, Or.inr k2⟩)
      · exact Or.inr (Or.inr k)

theorem JoinState.done {l m R A B : List Rn} (h : JoinState l m R A B) (he : A = [] ∨ B = []) : Valid (R ++ A ++ B) ∧ ∀ a x, has (R ++ A ++ B) a x ↔ has l a x ∨ has m a x := by
  refine ⟨⟨?_, ?_⟩, fun a x => ?_⟩
  · rcases he with rfl | rfl
    · simpa using h.sb
    · simpa using h.sa
  · intro r hr
    rcases List.mem_append.1 hr with k | k
    · rcases List.mem_append.1 k with k | k
      · exact h.ok r k
      · exact h.oka r k
    · exact h.okb r k
  · rw [← h.same a x, has_append, has_append, or_assoc]

/-! Runs in memory. -/
structure Rw where
  s : ByteArray
  u : Int
  a : Option Addr
  c : Nat
  X : List Int
def Rw.raw (r : Rw) : Raw := (r.s, r.u, r.a, r.X.length, r.c)
def Rw.rn (r : Rw) : Rn := (r.s.toList, r.u, r.X)

/-- A context of runs in memory. -/
structure CtxR (w : World) (a : Option Addr) (c : Nat) (ts : List Rw) (N : Nat) : Prop where
  runs : RunsAt w a (ts.map Rw.raw)
  each : ∀ t ∈ ts, RunAt w t.u t.a t.c t.X
  bnd : ∀ t ∈ ts, t.X.length ≤ N
  len : ts.length ≤ N
  cap : ts.length ≤ c
  valid : Valid (ts.map Rw.rn)
theorem CtxR.now {w w' : World} {a : Option Addr} {c : Nat} {ts : List Rw} {N : Nat} (h : CtxR w a c ts N) (hb : Below w.heap.size w w') : CtxR w' a c ts N :=
  ⟨h.runs.now hb, fun t ht => (h.each t ht).now hb, h.bnd, h.len, h.cap, h.valid⟩
theorem CtxR.mono {w : World} {a : Option Addr} {c : Nat} {ts : List Rw} {N M : Nat} (h : CtxR w a c ts N) (hN : N ≤ M) : CtxR w a c ts M :=
  ⟨h.runs, h.each, fun t ht => Nat.le_trans (h.bnd t ht) hN, Nat.le_trans h.len hN, h.cap, h.valid⟩

/-- A row ahead of block lo or behind block g. -/
def RowAway (lo g : Nat) (w : World) (a : Option Addr) (n : Nat) (f : Nat → Value) : Prop :=
  ∃ b off, (b < lo ∨ g < b) ∧ (0 < n → a = some ⟨b, off, none⟩) ∧ ∀ j, j < n → w.cell? ⟨b, off + j, none⟩ = some (f j)
theorem RowAway.at {lo g : Nat} {w : World} {a : Option Addr} {n : Nat} {f : Nat → Value} (h : RowAway lo g w a n f) : RowAt w a n f := by
  obtain ⟨b, off, _, h1, h2⟩ := h; exact ⟨b, off, h1, h2⟩
theorem RowAway.nil (lo g : Nat) (w : World) (a : Option Addr) (f : Nat → Value) : RowAway lo g w a 0 f := ⟨g + 1, 0, Or.inr (by omega), fun h => absurd h (by omega), fun j hj => absurd hj (by omega)⟩
theorem RowAway.grown {lo g : Nat} (hlo : lo ≤ g) {w w' : World} {a : Option Addr} {n : Nat} {f : Nat → Value} (h : RowAway lo g w a n f) (k : w.grownBy w' (some g)) : RowAway lo g w' a n f := by
  obtain ⟨b, off, h0, h1, h2⟩ := h
  refine ⟨b, off, h0, h1, fun j hj => ?_⟩
  have hc := h2 j hj
  have hb : w'.heap[b]? = w.heap[b]? := k.block b (World.block_lt_of_cell? _ _ hc) (by simp; omega)
  rw [World.cell?_of_block (w := w) (a := ⟨b, off + j, none⟩) hb]; exact hc
theorem RowAway.now {lo g : Nat} {w w' : World} {a : Option Addr} {n : Nat} {f : Nat → Value} (h : RowAway lo g w a n f) (k : Below w.heap.size w w') : RowAway lo g w' a n f := by
  obtain ⟨b, off, h0, h1, h2⟩ := h
  refine ⟨b, off, h0, h1, fun j hj => ?_⟩
  have hc := h2 j hj
  rw [k.cell (p := ⟨b, off + j, none⟩) (World.block_lt_of_cell? _ _ hc)]; exact hc
theorem RowAway.set {lo g : Nat} {w : World} {a : Option Addr} {n : Nat} {f : Nat → Value} (h : RowAway lo g w a n f) {p : Addr} (h1 : lo ≤ p.block) (h2 : p.block ≤ g) (u : Value) : RowAway lo g (w.setCell p u) a n f := by
  obtain ⟨b, off, h0, k1, k2⟩ := h
  refine ⟨b, off, h0, k1, fun j hj => ?_⟩
  have hb : (w.setCell p u).heap[b]? = w.heap[b]? := Go.Deep.blk_setCell_other _ _ _ _ (by omega)
  rw [World.cell?_of_block (w := w) (a := ⟨b, off + j, none⟩) hb]; exact k2 j hj
/-- A run whose row lies ahead of block lo or behind block g. -/
structure RunOff (lo g : Nat) (w : World) (u : Int) (a : Option Addr) (c : Nat) (X : List Int) : Prop where
  ok : RunOK u X
  row : RowAway lo g w a X.length (fun j => .int .u64 (ix X j))
  len : X.length ≤ 16777216
  cap : X.length ≤ c
  cap2 : c ≤ 1099511627776
theorem RunOff.at {lo g : Nat} {w : World} {u : Int} {a : Option Addr} {c : Nat} {X : List Int} (h : RunOff lo g w u a c X) : RunAt w u a c X := ⟨h.ok, h.row.at, h.len, h.cap, h.cap2⟩
theorem RunOff.grown {lo g : Nat} (hlo : lo ≤ g) {w w' : World} {u : Int} {a : Option Addr} {c : Nat} {X : List Int} (h : RunOff lo g w u a c X) (k : w.grownBy w' (some g)) : RunOff lo g w' u a c X := ⟨h.ok, h.row.grown hlo k, h.len, h.cap, h.cap2⟩
theorem RunOff.now {lo g : Nat} {w w' : World} {u : Int} {a : Option Addr} {c : Nat} {X : List Int} (h : RunOff lo g w u a c X) (k : Below w.heap.size w w') : RunOff lo g w' u a c X := ⟨h.ok, h.row.now k, h.len, h.cap, h.cap2⟩
theorem RunOff.set {lo g : Nat} {w : World} {u : Int} {a : Option Addr} {c : Nat} {X : List Int} (h : RunOff lo g w u a c X) {p : Addr} (h1 : lo ≤ p.block) (h2 : p.block ≤ g) (v : Value) : RunOff lo g (w.setCell p v) u a c X := ⟨h.ok, h.row.set h1 h2 v, h.len, h.cap, h.cap2⟩
theorem rowAway_of_at {lo g : Nat} {w : World} {a : Option Addr} {n : Nat} {f : Nat → Value} (h : RowAt w a n f) (hg : w.heap.size ≤ lo) : RowAway lo g w a n f := by
  by_cases hn : n = 0
  · subst hn; exact RowAway.nil _ _ _ _ _
  · obtain ⟨b, off, h1, h2⟩ := h
    have := World.block_lt_of_cell? _ _ (h2 0 (by omega))
    simp only at this
    exact ⟨b, off, Or.inl (by omega), h1, h2⟩
theorem RunAt.off {lo g : Nat} {w : World} {u : Int} {a : Option Addr} {c : Nat} {X : List Int} (h : RunAt w u a c X) (hg : w.heap.size ≤ lo) : RunOff lo g w u a c X := ⟨h.ok, rowAway_of_at h.row hg, h.len, h.cap, h.cap2⟩
theorem rowAway_of_from {B lo g : Nat} {w : World} {a : Option Addr} {n : Nat} {f : Nat → Value} (h : RowFrom B w a n f) (hg : g < B) : RowAway lo g w a n f := by
  obtain ⟨b, off, h0, h1, h2⟩ := h; exact ⟨b, off, Or.inr (by omega), h1, h2⟩

theorem ownsRow_below' {w w' : World} {B : Nat} {e : TypeId} {size : Nat} {v : Value} {n : Nat} {xs : List Value} (h : w.ownsRow B e size v n xs) (hb : Below w.heap.size w w') : w'.ownsRow B e size v n xs := by
  refine ⟨h.1, ?_⟩
  rcases h.2 with k | ⟨g, cap, cur, h1, h2, h3, h4⟩
  · exact Or.inl k
  · refine Or.inr ⟨g, cap, cur, h1, h2, ?_, h4⟩
    have : g < w.heap.size := by
      apply Nat.lt_of_not_le
      intro hle
      rw [Array.getElem?_eq_none hle] at h3
      cases h3
    rw [hb.block g this]; exact h3

/-- The runs made so far: in a row of one's own at block g. -/
structure Making (lo g : Nat) (w : World) (cc : Nat) (R : List Rw) (N : Nat) : Prop where
  own : w.ownsRow g 54 3 (.slice (some ⟨g, 0, none⟩) R.length cc) R.length (rcells (R.map Rw.raw))
  each : ∀ t ∈ R, RunOff lo g w t.u t.a t.c t.X
  bnd : ∀ t ∈ R, t.X.length ≤ N
theorem Making.now {lo g : Nat} {w w' : World} {cc : Nat} {R : List Rw} {N : Nat} (h : Making lo g w cc R N) (hb : Below w.heap.size w w') : Making lo g w' cc R N :=
  ⟨ownsRow_below' h.own hb, fun t ht => (h.each t ht).now hb, h.bnd⟩
theorem Making.more {lo g : Nat} (hlo : lo ≤ g) {w w' : World} {cc : Nat} {R T : List Rw} {N : Nat} (h : Making lo g w cc R N) (hg : w.grownBy w' (some g)) (hT : ∀ t ∈ T, RunOff lo g w t.u t.a t.c t.X) (hN : ∀ t ∈ T, t.X.length ≤ N)
    (own : w'.ownsRow g 54 3 (.slice (some ⟨g, 0, none⟩) (R.length + T.length) cc) (R.length + T.length) (rcells (R.map Rw.raw) ++ rcells (T.map Rw.raw))) : Making lo g w' cc (R ++ T) N := by
  refine ⟨?_, ?_, ?_⟩
  · rw [List.length_append, List.map_append, rcells_append]; exact own
  · intro t ht
    rcases List.mem_append.1 ht with k | k
    · exact (h.each t k).grown hlo hg
    · exact (hT t k).grown hlo hg
  · intro t ht
    rcases List.mem_append.1 ht with k | k
    · exact h.bnd t k
    · exact hN t k
end Go.Proofs.Qxb6620807a
