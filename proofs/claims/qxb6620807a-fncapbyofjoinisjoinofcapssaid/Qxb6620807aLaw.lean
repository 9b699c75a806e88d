import Derived.Test.Qxb6620807aConv
namespace Go.Proofs.Qxb6620807a
open Go.RowKit
set_option linter.unusedVariables false

/-- The runs that a context's rows tell. -/
def Cx.rws (c : Cx) : List Rw := mkRws c.S c.U c.A c.L c.C c.F c.n
def Cx.lst (c : Cx) : List Rn := c.rws.map Rw.rn
theorem Cx.has_lst (c : Cx) (a : List UInt8) (x : Int) : c.Has a x ↔ has c.lst a x := hasF_mk
theorem cxOf_lst (a1 a2 a3 : Option Addr) (ts : List Rw) : (cxOf a1 a2 a3 ts).lst = ts.map Rw.rn := by unfold Cx.lst Cx.rws; rw [cxOf_rws]
theorem Cx.rws_length (c : Cx) : c.rws.length = c.n := mkRws_length

/-- A well-formed context in bounds. -/
structure Cx.Good (c : Cx) (M : Nat) : Prop where
  hM : M ≤ 4194304
  valid : Valid c.lst
  hn : c.n ≤ M
  len : ∀ j, j < c.n → c.L j ≤ M
  cap : ∀ j, j < c.n → c.L j ≤ c.C j ∧ c.C j ≤ 1099511627776
theorem Cx.Good.ok {c : Cx} {M : Nat} (h : c.Good M) : c.OK M := ctxN_mk (by have := h.hn; have := h.hM; omega) (by have := h.hM; omega) h.len h.valid
theorem Cx.Good.mono {c : Cx} {M M' : Nat} (h : c.Good M) (k : M ≤ M') (k2 : M' ≤ 4194304) : c.Good M' := ⟨k2, h.valid, Nat.le_trans h.hn k, fun j hj => Nat.le_trans (h.len j hj) k, h.cap⟩

/-- Join's contract. -/
def JoinCSpec : Prop := ∀ (a b : Option Addr) (c d : Nat) (ts us : List Rw) (N1 N2 : Nat) (w : World) (_ : N1 + N2 ≤ 16777216) (_ : CtxR w a c ts N1) (_ : CtxR w b d us N2),
    Calls Try.prog 15 #[.agg #[.slice a ts.length c], .agg #[.slice b us.length d]] w (fun e w' => GaveC (IsUnion (ts.map Rw.rn) (us.map Rw.rn)) (N1 + N2) w w' e)

theorem make_cx (c : Cx) {M : Nat} (hG : c.Good M) (w : World) (h : c.At w) :
    Calls Try.prog 14 #[c.val] w (fun e w' => ∃ a cp, e = .returned (.agg #[.slice a c.rws.length cp]) ∧ CtxR w' a cp c.rws M ∧ Below w.heap.size w w') := by
  have hM := hG.hM
  refine (make_f c.a1 c.a2 c.a3 c.n c.c1 c.c2 c.c3 c.S c.U c.A c.L c.C w (by have := hG.hn; omega) h.s h.u h.b).mono ?_
  rintro e w' ⟨a, cp, rfl, hr, hc, hb⟩
  have hl : (raws c.S c.U c.A c.L c.C c.n).length = c.n := by simp [raws]
  rw [hl] at hc
  refine ⟨a, cp, by rw [hl, c.rws_length], ?_, hb⟩
  exact ctxR_mk (by omega) hr.at (fun j hj => (h.f j hj).now hb) hG.len hG.hn hc hG.cap hG.valid

theorem read_cx {w : World} {a : Option Addr} {c N : Nat} {rs : List Rw} (h : CtxR w a c rs N) (hN : N ≤ 16777216) :
    Calls Try.prog 13 #[.agg #[.slice a rs.length c]] w (fun e w' => ∃ a1 a2 a3, e = .returned (cxOf a1 a2 a3 rs).val ∧ (cxOf a1 a2 a3 rs).At w' ∧ Below w.heap.size w w') := by
  refine (read_f a rs.length c (rs.map Rw.raw) w (Nat.le_trans h.len hN) (List.length_map _) h.runs).mono ?_
  rintro e w' ⟨a1, a2, a3, rfl, r1, r2, r3, hb⟩
  rw [List.length_map] at r1 r2 r3
  refine ⟨a1, a2, a3, by rw [List.length_map]; rfl, cxOf_at (h.now hb) r1.at r2.at r3.at, hb⟩
theorem cxOf_good {w : World} {a : Option Addr} {c N : Nat} {rs : List Rw} (h : CtxR w a c rs N) (hN : N ≤ 4194304) (a1 a2 a3 : Option Addr) : (cxOf a1 a2 a3 rs).Good N := by
  have key : ∀ j, j < rs.length → rs.getD j drw ∈ rs := fun j hj => by rw [List.getD_eq_getElem?_getD, List.getElem?_eq_getElem hj]; exact List.getElem_mem _
  refine ⟨hN, by rw [cxOf_lst]; exact h.valid, h.len, fun j hj => h.bnd _ (key j hj), fun j hj => ?_⟩
  have := h.each _ (key j hj)
  exact ⟨this.cap, this.cap2⟩

theorem valid_cx (c : Cx) {M : Nat} (hG : c.Good M) (w : World) (h : c.At w) : Calls Try.prog 11 #[c.val] w (fun e w' => Said true w w' e) := by
  have hM := hG.hM
  have ok := hG.ok
  refine (valid_f c.a1 c.a2 c.a3 c.n c.n c.n c.c1 c.c2 c.c3 c.S c.U c.A c.L c.C c.F w (by have := hG.hn; omega) (fun j hj => by have := hG.len j hj; omega) ok.u ok.f h.s h.u h.b h.f).mono ?_
  rintro e w' ⟨b, rfl, hb, hbel⟩
  exact ⟨ret_bool (hb.2 ((validF_mk ok.u ok.f).2 hG.valid)), hbel⟩

/-- One context among the arguments. -/
structure ArgC (w : World) (a1 a2 a3 : Option Addr) (n n2 n3 : Nat) (S : Nat → ByteArray) (U : Nat → Int) (A : Nat → Option Addr) (L C : Nat → Nat) (F : Nat → Nat → Int) : Prop where
  s : RowAt w a1 n (fun j => .string (S j))
  u : RowAt w a2 n2 (fun j => .int .u64 (U j))
  b : RowAt w a3 n3 (fun j => .slice (A j) (L j) (C j))
  f : ∀ j, j < n3 → RowAt w (A j) (L j) (fun k => .int .u64 (F j k))
  hu : ∀ j, j < n2 → In64 (U j)
  hf : ∀ j, j < n3 → ∀ k, k < L j → In64 (F j k)
  z1 : a1 = none → n = 0
  z2 : a2 = none → n2 = 0
  z3 : a3 = none → n3 = 0
  z4 : ∀ j, j < n3 → A j = none → L j = 0
theorem ArgC.now {w w' : World} {a1 a2 a3 : Option Addr} {n n2 n3 : Nat} {S : Nat → ByteArray} {U : Nat → Int} {A : Nat → Option Addr} {L C : Nat → Nat} {F : Nat → Nat → Int} (h : ArgC w a1 a2 a3 n n2 n3 S U A L C F) (hb : Below w.heap.size w w') : ArgC w' a1 a2 a3 n n2 n3 S U A L C F :=
  ⟨h.s.now hb, h.u.now hb, h.b.now hb, fun j hj => (h.f j hj).now hb, h.hu, h.hf, h.z1, h.z2, h.z3, h.z4⟩

/-- The copy of an argument: a context with the same runs. -/
theorem copy_cx {a1 a2 a3 : Option Addr} {n c1 c2 c3 : Nat} {S : Nat → ByteArray} {U : Nat → Int} {A : Nat → Option Addr} {L C : Nat → Nat} {F : Nat → Nat → Int} (w : World) (h : ArgC w a1 a2 a3 n n n S U A L C F) (hn : n ≤ 1048576) (hl : ∀ j, j < n → L j ≤ 1048576) (hv : ValidF n n n S U L F) :
    Calls Try.prog 12 #[.slice a1 n c1, .slice a2 n c2, .slice a3 n c3] w (fun e w' => ∃ c : Cx, e = .returned c.val ∧ c.At w' ∧ c.Good 1048576 ∧ Below w.heap.size w w') := by
  refine (copyCtx_f a1 a2 a3 n n n c1 c2 c3 S U A L C F w (by omega) (by omega) (by omega) (fun j hj => by have := hl j hj; omega) h.z1 h.z2 h.z3 h.z4 h.s h.u h.b h.f).mono ?_
  rintro e w' ⟨b1, b2, b3, A', rfl, hc, hb⟩
  refine ⟨⟨b1, b2, b3, n, n, n, n, S, U, A', L, L, F⟩, rfl, ⟨hc.s.at, hc.u.at, hc.b.at, fun j hj => (hc.f j hj).at⟩, ⟨by omega, ?_, hn, hl, fun j hj => ⟨Nat.le_refl _, Nat.le_trans (hl j hj) (by omega)⟩⟩, hb⟩
  exact (validF_mk h.hu h.hf).1 hv

theorem zero_good : (cxOf none none none []).Good 1048576 := ⟨by omega, by rw [cxOf_lst]; exact ⟨List.Pairwise.nil, fun r hr => by simp at hr⟩, Nat.zero_le _, fun j hj => absurd hj (Nat.not_lt_zero _), fun j hj => absurd hj (Nat.not_lt_zero _)⟩
theorem zero_at (w : World) : (cxOf none none none []).At w := ⟨RowAt.nil _ _ _, RowAt.nil _ _ _, RowAt.nil _ _ _, fun j hj => absurd hj (Nat.not_lt_zero _)⟩
theorem zero_has (a : List UInt8) (x : Int) : ¬ (cxOf none none none []).Has a x := by rw [cxOf_has]; exact has_nil _ _
end Go.Proofs.Qxb6620807a
