import Derived.Test.Qxb6620807aJoin
import Derived.Test.Qxb6620807aUnion
namespace Go.Proofs.Qxb6620807a
open Go.RowKit
set_option linter.unusedVariables false

/-! From index functions to lists, and back. -/
def col (l : Nat) (f : Nat → Int) : List Int := (List.range l).map f
theorem col_length (l : Nat) (f : Nat → Int) : (col l f).length = l := by simp [col]
theorem col_at {l : Nat} {f : Nat → Int} {k : Nat} (h : k < l) : ix (col l f) k = f k := by
  have : k < (col l f).length := by rw [col_length]; exact h
  rw [getD_get this]; simp [col]
theorem col_mem {l : Nat} {f : Nat → Int} {x : Int} : x ∈ col l f ↔ ∃ k, k < l ∧ f k = x := by simp [col]
theorem col_ix (X : List Int) : col X.length (ix X) = X := by
  apply List.ext_getElem
  · rw [col_length]
  · intro i h1 h2
    rw [← getD_get h1, ← getD_get h2]; exact col_at h2

def mkRw (S : Nat → ByteArray) (U : Nat → Int) (A : Nat → Option Addr) (L C : Nat → Nat) (F : Nat → Nat → Int) (j : Nat) : Rw := ⟨S j, U j, A j, C j, col (L j) (F j)⟩
def mkRws (S : Nat → ByteArray) (U : Nat → Int) (A : Nat → Option Addr) (L C : Nat → Nat) (F : Nat → Nat → Int) (n : Nat) : List Rw := (List.range n).map (mkRw S U A L C F)
section
variable {S : Nat → ByteArray} {U : Nat → Int} {A : Nat → Option Addr} {L C : Nat → Nat} {F : Nat → Nat → Int} {n : Nat}
theorem mkRws_length : (mkRws S U A L C F n).length = n := by simp [mkRws]
theorem mkRws_mem {t : Rw} : t ∈ mkRws S U A L C F n ↔ ∃ j, j < n ∧ mkRw S U A L C F j = t := by simp [mkRws]
theorem mkRws_raw : (mkRws S U A L C F n).map Rw.raw = raws S U A L C n := by
  simp only [mkRws, raws, List.map_map]
  apply List.map_congr_left
  intro j _
  simp [mkRw, Rw.raw, raw, col_length]
theorem has1_col {u : Int} {l : Nat} {f : Nat → Int} {x : Int} : Has1 u l f x ↔ inR u (col l f) x := by
  unfold Has1 inR; rw [col_mem]
theorem hasF_mk {a : List UInt8} {x : Int} : HasF n S U L F a x ↔ has ((mkRws S U A L C F n).map Rw.rn) a x := by
  unfold HasF has
  constructor
  · rintro ⟨i, hi, e, k⟩
    exact ⟨(mkRw S U A L C F i).rn, List.mem_map.2 ⟨_, mkRws_mem.2 ⟨i, hi, rfl⟩, rfl⟩, e, has1_col.1 k⟩
  · rintro ⟨r, hr, e, k⟩
    obtain ⟨t, ht, rfl⟩ := List.mem_map.1 hr
    obtain ⟨i, hi, rfl⟩ := mkRws_mem.1 ht
    exact ⟨i, hi, e, has1_col.2 k⟩
theorem mkRws_get {i : Nat} (h : i < (mkRws S U A L C F n).length) : (mkRws S U A L C F n)[i] = mkRw S U A L C F i := by simp [mkRws]

theorem runOK_col {u : Int} {l : Nat} {f : Nat → Int} (hu : In64 u) (hf : ∀ k, k < l → In64 (f k)) : RunOK u (col l f) ↔ ∀ j, j < l → okAt u f j := by
  rw [runOK_iff hu (fun x hx => by obtain ⟨k, hk, rfl⟩ := col_mem.1 hx; exact hf k hk), col_length]
  constructor
  · intro h j hj
    have := h j hj
    unfold okAt at this ⊢
    split at this
    · rename_i e; subst e; rw [col_at hj] at this; rw [if_pos rfl]; exact this
    · rename_i e; rw [col_at hj, col_at (by omega)] at this; rw [if_neg e]; exact this
  · intro h j hj
    have := h j hj
    unfold okAt at this ⊢
    split at this
    · rename_i e; subst e; rw [if_pos rfl, col_at hj]; exact this
    · rename_i e; rw [if_neg e, col_at hj, col_at (by omega)]; exact this

theorem col_nil {l : Nat} {f : Nat → Int} : col l f = [] ↔ l = 0 := by
  rw [← List.length_eq_zero_iff, col_length]

theorem validF_mk (hU : ∀ j, j < n → In64 (U j)) (hF : ∀ j, j < n → ∀ k, k < L j → In64 (F j k)) : ValidF n n n S U L F ↔ Valid ((mkRws S U A L C F n).map Rw.rn) := by
  constructor
  · rintro ⟨-, -, h⟩
    have hadj : ∀ d i, i + (d + 1) < n → slt (S i).toList (S (i + (d + 1))).toList := by
      intro d
      induction d with
      | zero => intro i hi; have := (h (i + 1) hi).1 (by omega); simpa using this
      | succ d ih =>
        intro i hi
        have k1 := ih i (by omega)
        have k2 := (h (i + (d + 1 + 1)) hi).1 (by omega)
        rw [show i + (d + 1 + 1) - 1 = i + (d + 1) from by omega] at k2
        exact slt_trans k1 k2
    refine ⟨?_, ?_⟩
    · unfold Sorted
      rw [List.pairwise_iff_getElem]
      intro i j hi hj hij
      simp only [List.getElem_map, mkRws_get]
      simp only [List.length_map, mkRws_length] at hi hj
      have := hadj (j - i - 1) i (by omega)
      rw [show i + (j - i - 1 + 1) = j from by omega] at this
      exact this
    · intro r hr
      obtain ⟨t, ht, rfl⟩ := List.mem_map.1 hr
      obtain ⟨i, hi, rfl⟩ := mkRws_mem.1 ht
      obtain ⟨_, h2, h3⟩ := h i hi
      refine ⟨(runOK_col (hU i hi) (hF i hi)).2 h3, fun hz hX => h2 ⟨hz, ?_⟩⟩
      exact col_nil.1 hX
  · intro h
    refine ⟨rfl, rfl, fun i hi => ?_⟩
    have hm : (mkRw S U A L C F i).rn ∈ (mkRws S U A L C F n).map Rw.rn := List.mem_map.2 ⟨_, mkRws_mem.2 ⟨i, hi, rfl⟩, rfl⟩
    obtain ⟨h1, h2⟩ := h.2 _ hm
    refine ⟨fun h0 => ?_, fun hh => ?_, (runOK_col (hU i hi) (hF i hi)).1 h1⟩
    · have hs := h.1
      unfold Sorted at hs
      rw [List.pairwise_iff_getElem] at hs
      have := hs (i - 1) i (by simp [mkRws_length]; omega) (by simp [mkRws_length]; omega) (by omega)
      simp only [List.getElem_map, mkRws_get] at this
      exact this
    · exact h2 hh.1 (col_nil.2 hh.2)

/-- Bounds that go with a valid context. -/
theorem ctxN_mk {M : Nat} (hn : n ≤ 16777216) (hM : M ≤ 16777216) (hlen : ∀ j, j < n → L j ≤ M) (h : Valid ((mkRws S U A L C F n).map Rw.rn)) : CtxN n S U L F M := by
  have hm : ∀ i, i < n → RunOK (U i) (col (L i) (F i)) := fun i hi => (h.2 _ (List.mem_map.2 ⟨_, mkRws_mem.2 ⟨i, hi, rfl⟩, rfl⟩)).1
  refine ⟨⟨hn, fun j hj => Nat.le_trans (hlen j hj) hM, ?_, ?_⟩, ?_, ?_, hlen⟩
  · intro i j hij hj
    have hs := h.1
    unfold Sorted at hs
    rw [List.pairwise_iff_getElem] at hs
    have := hs i j (by simp [mkRws_length]; omega) (by simp [mkRws_length]; omega) hij
    simp only [List.getElem_map, mkRws_get] at this
    exact this
  · intro j hj i k hik hk
    have := asc_iff.1 (hm j hj).asc i k hik (by rw [col_length]; exact hk)
    rw [col_at hk, col_at (by omega)] at this
    exact this
  · intro j hj; exact ⟨(hm j hj).up0, (hm j hj).upM⟩
  · intro j hj k hk
    have hmem : F j k ∈ col (L j) (F j) := col_mem.2 ⟨k, hk, rfl⟩
    have h1 := (hm j hj).lo _ hmem
    have h2 := (hm j hj).hi _ hmem
    have h3 := (hm j hj).up0
    exact ⟨by omega, h2⟩

/-- A context made of rows. -/
theorem ctxR_mk {w : World} {a : Option Addr} {c N : Nat} (hN : N ≤ 16777216) (hr : RunsAt w a (raws S U A L C n)) (hrow : ∀ j, j < n → RowAt w (A j) (L j) (fun k => .int .u64 (F j k))) (hlen : ∀ j, j < n → L j ≤ N) (hn : n ≤ N) (hc : n ≤ c) (hC : ∀ j, j < n → L j ≤ C j ∧ C j ≤ 1099511627776)
    (hv : Valid ((mkRws S U A L C F n).map Rw.rn)) : CtxR w a c (mkRws S U A L C F n) N := by
  refine ⟨by rw [mkRws_raw]; exact hr, ?_, ?_, by rw [mkRws_length]; exact hn, by rw [mkRws_length]; exact hc, hv⟩
  · intro t ht
    obtain ⟨j, hj, rfl⟩ := mkRws_mem.1 ht
    refine ⟨(hv.2 _ (List.mem_map.2 ⟨_, ht, rfl⟩)).1, ?_, ?_, ?_, (hC j hj).2⟩
    · show RowAt w (A j) (col (L j) (F j)).length _
      rw [col_length]
      obtain ⟨b, off, h1, h2⟩ := hrow j hj
      refine ⟨b, off, h1, fun k hk => ?_⟩
      show _ = some (Value.int .u64 (ix (col (L j) (F j)) k))
      rw [col_at hk]; exact h2 k hk
    · show (col (L j) (F j)).length ≤ _
      rw [col_length]; exact Nat.le_trans (hlen j hj) hN
    · show (col (L j) (F j)).length ≤ _
      rw [col_length]; exact (hC j hj).1
  · intro t ht
    obtain ⟨j, hj, rfl⟩ := mkRws_mem.1 ht
    show (col (L j) (F j)).length ≤ _
    rw [col_length]; exact hlen j hj
end

/-! A context read back. -/
def drw : Rw := ⟨ByteArray.empty, 0, none, 0, []⟩
def cxOf (a1 a2 a3 : Option Addr) (ts : List Rw) : Cx := ⟨a1, a2, a3, ts.length, ts.length, ts.length, ts.length, fun j => (ts.getD j drw).s, fun j => (ts.getD j drw).u, fun j => (ts.getD j drw).a, fun j => (ts.getD j drw).X.length, fun j => (ts.getD j drw).c, fun j k => ix (ts.getD j drw).X k⟩
theorem cxOf_rws (a1 a2 a3 : Option Addr) (ts : List Rw) : mkRws (cxOf a1 a2 a3 ts).S (cxOf a1 a2 a3 ts).U (cxOf a1 a2 a3 ts).A (cxOf a1 a2 a3 ts).L (cxOf a1 a2 a3 ts).C (cxOf a1 a2 a3 ts).F (cxOf a1 a2 a3 ts).n = ts := by
  apply List.ext_getElem
  · rw [mkRws_length]; rfl
  · intro i h1 h2
    rw [mkRws_get]
    have e : ts.getD i drw = ts[i] := by rw [List.getD_eq_getElem?_getD, List.getElem?_eq_getElem h2]; rfl
    show Rw.mk (ts.getD i drw).s (ts.getD i drw).u (ts.getD i drw).a (ts.getD i drw).c (col (ts.getD i drw).X.length (fun k => ix (ts.getD i drw).X k)) = _
    rw [e]
    have := col_ix ts[i].X
    unfold ix at this ⊢
    rw [this]
theorem cxOf_has (a1 a2 a3 : Option Addr) (ts : List Rw) (a : List UInt8) (x : Int) : (cxOf a1 a2 a3 ts).Has a x ↔ has (ts.map Rw.rn) a x := by
  have := hasF_mk (S := (cxOf a1 a2 a3 ts).S) (U := (cxOf a1 a2 a3 ts).U) (A := (cxOf a1 a2 a3 ts).A) (L := (cxOf a1 a2 a3 ts).L) (C := (cxOf a1 a2 a3 ts).C) (F := (cxOf a1 a2 a3 ts).F) (n := (cxOf a1 a2 a3 ts).n) (a := a) (x := x)
  rw [cxOf_rws] at this
  exact this
theorem cxOf_ok (a1 a2 a3 : Option Addr) {ts : List Rw} {M : Nat} (hM : M ≤ 16777216) (hl : ts.length ≤ M) (hb : ∀ t ∈ ts, t.X.length ≤ M) (hv : Valid (ts.map Rw.rn)) : (cxOf a1 a2 a3 ts).OK M := by
  refine ctxN_mk (A := (cxOf a1 a2 a3 ts).A) (C := (cxOf a1 a2 a3 ts).C) (Nat.le_trans hl hM) hM ?_ (by rw [cxOf_rws]; exact hv)
  intro j hj
  have hj : j < ts.length := hj
  show (ts.getD j drw).X.length ≤ M
  rw [List.getD_eq_getElem?_getD, List.getElem?_eq_getElem hj]
  exact hb _ (List.getElem_mem _)
theorem cxOf_at {w : World} {a : Option Addr} {c N : Nat} {ts : List Rw} (h : CtxR w a c ts N) {a1 a2 a3 : Option Addr} (h1 : RowAt w a1 ts.length (fun j => .string ((ts.map Rw.raw).getD j dr).1)) (h2 : RowAt w a2 ts.length (fun j => .int .u64 ((ts.map Rw.raw).getD j dr).2.1))
    (h3 : RowAt w a3 ts.length (fun j => .slice ((ts.map Rw.raw).getD j dr).2.2.1 ((ts.map Rw.raw).getD j dr).2.2.2.1 ((ts.map Rw.raw).getD j dr).2.2.2.2)) : (cxOf a1 a2 a3 ts).At w := by
  have e : ∀ j, (ts.map Rw.raw).getD j dr = (ts.getD j drw).raw := fun j => by
    rw [List.getD_eq_getElem?_getD, List.getD_eq_getElem?_getD, List.getElem?_map]
    cases ts[j]? <;> rfl
  simp only [e] at h1 h2 h3
  refine ⟨h1, h2, h3, fun j hj => ?_⟩
  have hj : j < ts.length := hj
  have ej : ts.getD j drw = ts[j] := by rw [List.getD_eq_getElem?_getD, List.getElem?_eq_getElem hj]; rfl
  have := (h.each ts[j] (List.getElem_mem _)).row
  rw [← ej] at this
  exact this
end Go.Proofs.Qxb6620807a
