import Derived.Test.Qxb6620807aCapP3
namespace Go.Proofs.Qxb6620807a
open Go.RowKit
set_option linter.unusedVariables false

/-- c cut by o. -/
def IsCut (l m r : List Rn) : Prop := ∀ a t, Top m a t → ∀ x, has r a x ↔ has l a x ∧ x ≤ t

/-- Where CapBy's loop stands: v is the variable 'runs'. -/
structure CapAt (w w1 wr : World) (ts us R : List Rw) (v : Value) (i j N : Nat) : Prop where
  hi : i ≤ ts.length
  hj : j ≤ us.length
  below : Below w1.heap.size w1 wr
  row : (v = .slice none 0 0 ∧ R = ts.take i) ∨ ∃ g, v = .slice (some ⟨g, 0, none⟩) R.length ts.length ∧ w1.heap.size ≤ g ∧ Making w.heap.size g wr ts.length R N ∧ R.length ≤ i
  st : CapState (us.map Rw.rn) (R.map Rw.rn) ((ts.take i).map Rw.rn) ((ts.drop i).map Rw.rn)
  past : ∀ k (hk : k < us.length), k < j → ∀ p ∈ ts.drop i, slt us[k].s.toList p.s.toList

theorem CapAt.now {w w1 wr wx : World} {ts us R : List Rw} {v : Value} {i j N : Nat} (h : CapAt w w1 wr ts us R v i j N) (hb : Below wr.heap.size wr wx) : CapAt w w1 wx ts us R v i j N := by
  refine ⟨h.hi, h.hj, Below.step h.below hb, ?_, h.st, h.past⟩
  rcases h.row with k | ⟨g, hv, hg, hm, hl⟩
  · exact Or.inl k
  · exact Or.inr ⟨g, hv, hg, hm.now hb, hl⟩

theorem CapAt.state {w w1 wr : World} {ts us R : List Rw} {v : Value} {i j N : Nat} (h : CapAt w w1 wr ts us R v i j N) (hi : i < ts.length) (hu : Sorted (us.map Rw.rn)) {t : Int} (ht : Top (us.map Rw.rn) ts[i].s.toList t)
    (q : Option Rw) (hq1 : ∀ s, q = some s → s.s.toList = ts[i].s.toList ∧ RnOK s.rn) (hq : ∀ x, (∃ s, q = some s ∧ inR s.u s.X x) ↔ inR ts[i].u ts[i].X x ∧ x ≤ t) :
    CapState (us.map Rw.rn) ((R ++ q.toList).map Rw.rn) ((ts.take (i + 1)).map Rw.rn) ((ts.drop (i + 1)).map Rw.rn) := by
  have st := h.st
  rw [drop_at hi, List.map_cons] at st
  have k := st.step (r := ts[i].rn) ht (fun t' ht' => top_uniq hu ht ht') (q.map Rw.rn) (fun s hs => by
    cases q with
    | none => cases hs
    | some s' => cases hs; exact hq1 s' rfl) (fun x => by
    rw [show (inR ts[i].rn.2.1 ts[i].rn.2.2 x ∧ x ≤ t) = (inR ts[i].u ts[i].X x ∧ x ≤ t) from rfl, ← hq x]
    cases q with
    | none => constructor <;> (rintro ⟨s, hs, _⟩; cases hs)
    | some s' =>
      constructor
      · rintro ⟨s, hs, hx⟩; cases hs; exact ⟨s', rfl, hx⟩
      · rintro ⟨s, hs, hx⟩; cases hs; exact ⟨_, rfl, hx⟩)
  rw [← List.take_append_getElem hi, List.map_append, List.map_append]
  cases q <;> simpa using k

theorem CapAt.past1 {w w1 wr : World} {ts us R : List Rw} {v : Value} {i j N : Nat} (h : CapAt w w1 wr ts us R v i j N) (hi : i < ts.length) {j' : Nat} (hp : ∀ k (hk : k < us.length), k < j' → slt us[k].s.toList ts[i].s.toList) :
    ∀ k (hk : k < us.length), k < j' → ∀ p ∈ ts.drop (i + 1), slt us[k].s.toList p.s.toList := by
  intro k hk hkj p hpm
  have so := (sorted_app.1 h.st.sa).2.1
  rw [drop_at hi, List.map_cons, sorted_cons] at so
  exact slt_trans (hp k hk hkj) (so.1 p.rn (List.mem_map.2 ⟨p, hpm, rfl⟩))

theorem keep_in {u t : Int} {X : List Int} {r : Rw} (hr : RunOK r.u r.X) (hle : topR r.u r.X ≤ t) (x : Int) : (∃ s, some r = some s ∧ inR s.u s.X x) ↔ inR r.u r.X x ∧ x ≤ t := by
  constructor
  · rintro ⟨s, hs, hx⟩; cases hs; exact ⟨hx, Int.le_trans (le_topR hr hx) hle⟩
  · rintro ⟨hx, _⟩; exact ⟨r, rfl, hx⟩

theorem CapAt.keepNil {w w1 wr wx : World} {ts us : List Rw} {i j N : Nat} (h : CapAt w w1 wr ts us (ts.take i) (.slice none 0 0) i j N) (hb : Below wr.heap.size wr wx) (hi : i < ts.length) (hu : Sorted (us.map Rw.rn)) {t : Int}
    (ht : Top (us.map Rw.rn) ts[i].s.toList t) (hle : topR ts[i].u ts[i].X ≤ t) {j' : Nat} (hj : j' ≤ us.length) (hp : ∀ k (hk : k < us.length), k < j' → slt us[k].s.toList ts[i].s.toList) :
    CapAt w w1 wx ts us (ts.take (i + 1)) (.slice none 0 0) (i + 1) j' N := by
  have okb := h.st.okb ts[i].rn (by rw [drop_at hi, List.map_cons]; exact List.mem_cons_self)
  have st := h.state hi hu ht (some ts[i]) (fun s hs => by cases hs; exact ⟨rfl, okb⟩) (keep_in (u := 0) (X := []) okb.1 hle)
  refine ⟨hi, hj, Below.step h.below hb, Or.inl ⟨rfl, rfl⟩, ?_, h.past1 hi hp⟩
  rw [Option.toList_some, List.take_append_getElem hi] at st
  exact st

theorem CapAt.one {w w1 wx w' : World} {o : Obj} {ts us R : List Rw} {g i j N : Nat} (h : CapAt w w1 wx ts us R (.slice (some ⟨g, 0, none⟩) R.length ts.length) i j N) (hlo : w.heap.size ≤ w1.heap.size) (hi : i < ts.length) (hu : Sorted (us.map Rw.rn)) {t : Int}
    (ht : Top (us.map Rw.rn) ts[i].s.toList t) (r : Rw) (hs : r.s.toList = ts[i].s.toList) (hr : RunAt w r.u r.a r.c r.X) (hne : r.u = 0 → r.X ≠ []) (hN : r.X.length ≤ N) (hq : ∀ x, inR r.u r.X x ↔ inR ts[i].u ts[i].X x ∧ x ≤ t) (hbw : Below w.heap.size w wx)
    {j' : Nat} (hj : j' ≤ us.length) (hp : ∀ k (hk : k < us.length), k < j' → slt us[k].s.toList ts[i].s.toList)
    (hg : (wx.alloc o).grownBy w' (some g)) (own : w'.ownsRow g 54 3 (.slice (some ⟨g, 0, none⟩) (R.length + 1) ts.length) (R.length + 1) (rcells (R.map Rw.raw) ++ rcell r.raw)) :
    CapAt w w1 w' ts us (R ++ [r]) (.slice (some ⟨g, 0, none⟩) (R.length + 1) ts.length) (i + 1) j' N := by
  have st := h.state hi hu ht (some r) (fun s hs' => by cases hs'; exact ⟨hs, hr.ok, hne⟩) (fun x => by
    rw [← hq x]
    constructor
    · rintro ⟨s, hs', hx⟩; cases hs'; exact hx
    · intro hx; exact ⟨r, rfl, hx⟩)
  rcases h.row with ⟨hv, _⟩ | ⟨g', hv, hg', hm, hl⟩
  · cases hv
  · cases hv
    refine ⟨hi, hj, (h.below.alloc h.below.size o).grown hg (by rw [Go.Deep.nblk_alloc]; exact Nat.le_succ_of_le h.below.size) (fun x hx => by cases hx; exact hg'), Or.inr ⟨g, by rw [List.length_append]; rfl, hg', making_one (by omega) hm ((hr.off (Nat.le_refl _)).now hbw) hN hg own, by rw [List.length_append, List.length_singleton]; omega⟩, st, h.past1 hi hp⟩

theorem CapAt.skip {w w1 wx wy : World} {ts us R : List Rw} {g i j N : Nat} (h : CapAt w w1 wx ts us R (.slice (some ⟨g, 0, none⟩) R.length ts.length) i j N) (hb : Below wx.heap.size wx wy) (hi : i < ts.length) (hu : Sorted (us.map Rw.rn)) {t : Int}
    (ht : Top (us.map Rw.rn) ts[i].s.toList t) (hq : ∀ x, ¬ (inR ts[i].u ts[i].X x ∧ x ≤ t))
    {j' : Nat} (hj : j' ≤ us.length) (hp : ∀ k (hk : k < us.length), k < j' → slt us[k].s.toList ts[i].s.toList) :
    CapAt w w1 wy ts us R (.slice (some ⟨g, 0, none⟩) R.length ts.length) (i + 1) j' N := by
  have st := h.state hi hu ht none (fun s hs' => by cases hs') (fun x => by
    constructor
    · rintro ⟨s, hs', hx⟩; cases hs'
    · intro hx; exact absurd hx (hq x))
  rw [Option.toList_none, List.append_nil] at st
  rcases h.row with ⟨hv, _⟩ | ⟨g', hv, hg', hm, hl⟩
  · cases hv
  · cases hv
    exact ⟨hi, hj, Below.step h.below hb, Or.inr ⟨g, rfl, hg', hm.now hb, by omega⟩, st, h.past1 hi hp⟩

/-- From c's own runs to a row of one's own. -/
theorem CapAt.fresh {w w1 wx w' : World} {a : Option Addr} {c : Nat} {ts us : List Rw} {g i j N : Nat} (h : CapAt w w1 wx ts us (ts.take i) (.slice none 0 0) i j N) (H : CtxR w a c ts N) (hbw : Below w.heap.size w w') (hb : Below wx.heap.size wx w') (hg : w1.heap.size ≤ g)
    (own : w'.ownsRow g 54 3 (.slice (some ⟨g, 0, none⟩) i ts.length) i (rcells ((ts.map Rw.raw).take i))) :
    CapAt w w1 w' ts us (ts.take i) (.slice (some ⟨g, 0, none⟩) i ts.length) i j N := by
  have hl : (ts.take i).length = i := by rw [List.length_take]; have := h.hi; omega
  refine ⟨h.hi, h.hj, Below.step h.below hb, Or.inr ⟨g, by rw [hl], hg, ⟨?_, fun t ht => ?_, fun t ht => H.bnd t (List.mem_of_mem_take ht)⟩, by omega⟩, h.st, h.past⟩
  · rw [hl, List.map_take]; exact own
  · exact ((H.each t (List.mem_of_mem_take ht)).off (Nat.le_refl _)).now hbw

/-- A run cut at t, in memory. -/
theorem cut_at {w : World} {u t : Int} {a a' : Option Addr} {c p : Nat} {X : List Int} (h : RunAt w u a c X) (h0 : 0 ≤ t) (h1 : t ≤ 18446744073709551615) (hsp : AtSplit X.length (ix X) (t + 1) p) (hp : p ≤ X.length) (ha : 0 < p → a' = a) :
    (X.take p).length = p ∧ RunAt w (if u ≤ t then u else t) a' p (X.take p) ∧ ∀ x, inR (if u ≤ t then u else t) (X.take p) x ↔ inR u X x ∧ x ≤ t := by
  obtain ⟨k1, k2⟩ := cut_run h.ok h0 h1 hsp
  have hl : (X.take p).length = p := by rw [List.length_take]; omega
  refine ⟨hl, ⟨k1, ?_, ?_, ?_, ?_⟩, k2⟩
  · obtain ⟨b, off, q1, q2⟩ := h.row
    refine ⟨b, off, fun hpos => ?_, fun j hj => ?_⟩
    · rw [hl] at hpos; rw [ha hpos]; exact q1 (by omega)
    · rw [hl] at hj
      have e : ix (X.take p) j = ix X j := by
        rw [getD_get (by omega), getD_get (by omega), List.getElem_take]
      simp only [e]
      exact q2 j (by omega)
  · have := h.len; omega
  · omega
  · have := h.len; omega
end Go.Proofs.Qxb6620807a
