import Derived.Test.Qxb6620807aJoinP
namespace Go.Proofs.Qxb6620807a
open Go.RowKit
set_option linter.unusedVariables false

/-- A context handed back. -/
def GaveC (p : List Rn → Prop) (N : Nat) (w w' : World) (e : Ending) : Prop := ∃ a c rs, e = .returned (.agg #[.slice a (rs : List Rw).length c]) ∧ CtxR w' a c rs N ∧ p (rs.map Rw.rn) ∧ Below w.heap.size w w'
def IsUnion (l m r : List Rn) : Prop := ∀ a x, has r a x ↔ has l a x ∨ has m a x

theorem box1s (w : World) (x y z : Value) : ∃ w1, ((w.alloc (.cells #[x] 35)).alloc (.cells #[y] 35)).alloc (.cells #[z] 35) = w1 ∧ w1.heap.size = w.heap.size + 3 ∧ Below w.heap.size w w1 ∧
    w1.cell? ⟨w.heap.size, 0, none⟩ = some x ∧ w1.cell? ⟨w.heap.size + 1, 0, none⟩ = some y ∧ w1.cell? ⟨w.heap.size + 1 + 1, 0, none⟩ = some z ∧ w1.frozen? ⟨w.heap.size + 1 + 1, 0, none⟩ = false := by
  have D1 := cell1 w x 35
  have e1 : (w.alloc (.cells #[x] 35)).heap.size = w.heap.size + 1 := by rw [Go.Deep.nblk_alloc]
  generalize w.alloc (.cells #[x] 35) = wa at *
  have D2 := cell1 wa y 35
  have e2 : (wa.alloc (.cells #[y] 35)).heap.size = w.heap.size + 1 + 1 := by rw [Go.Deep.nblk_alloc, e1]
  generalize wa.alloc (.cells #[y] 35) = wb at *
  have D3 := cell1 wb z 35
  have e3 : (wb.alloc (.cells #[z] 35)).heap.size = w.heap.size + 1 + 1 + 1 := by rw [Go.Deep.nblk_alloc, e2]
  have F1 := (D1.on D2.below).on D3.below
  have F2 := D2.on D3.below
  have F2c := F2.c0
  have D3c := D3.c0
  have D3f := D3.fr
  rw [e1] at F2c
  rw [e2] at D3c D3f
  exact ⟨_, rfl, e3, F1.below, F1.c0, F2c, D3c, D3f⟩

theorem drop_app {α : Type} (x y : List α) (n : Nat) {m : Nat} (h : x.length = m) : (x ++ y).drop (m + n) = y.drop n := by
  subst h
  rw [List.drop_append]; simp
theorem rcells_drop : ∀ (i : Nat) (rs : List Raw), rcells (rs.drop i) = (rcells rs).drop (i * 3)
  | 0, rs => by simp
  | i + 1, [] => by simp [rcells]
  | i + 1, r :: rs => by
    rw [List.drop_succ_cons, rcells_drop i rs]
    rw [show rcells (r :: rs) = rcell r ++ rcells rs from by simp [rcells]]
    rw [show (i + 1) * 3 = 3 + i * 3 from by omega, drop_app (rcell r) (rcells rs) (i * 3) (m := 3) rfl]
theorem runsAt_cells {w : World} {b off : Nat} {rs : List Raw} (h : ∀ j r, rs[j]? = some r → w.cell? ⟨b, off + j * 3, none⟩ = some (.string r.1) ∧ w.cell? ⟨b, off + j * 3 + 1, none⟩ = some (.int .u64 r.2.1) ∧ w.cell? ⟨b, off + j * 3 + 2, none⟩ = some (.slice r.2.2.1 r.2.2.2.1 r.2.2.2.2))
    (k : Nat) (u : Value) (hk : (rcells rs)[k]? = some u) : w.cell? ⟨b, off + k, none⟩ = some u := by
  have hlt : k < (rcells rs).length := by
    apply Nat.lt_of_not_le; intro hle; rw [List.getElem?_eq_none hle] at hk; cases hk
  rw [rcells_length] at hlt
  obtain ⟨j, hj, hk3⟩ : ∃ j, j < rs.length ∧ (k = j * 3 ∨ k = j * 3 + 1 ∨ k = j * 3 + 2) := ⟨k / 3, by omega, by omega⟩
  obtain ⟨r, hr⟩ : ∃ r, rs[j]? = some r := ⟨_, List.getElem?_eq_getElem hj⟩
  obtain ⟨h1, h2, h3⟩ := h _ _ hr
  obtain ⟨g1, g2, g3⟩ := rcells_at rs _ _ hr
  rcases hk3 with rfl | rfl | rfl
  · rw [g1] at hk; cases hk; exact h1
  · rw [g2] at hk; cases hk; exact h2
  · rw [g3] at hk; cases hk; exact h3
/-- The cells of a context's runs from place i on. -/
theorem runs_rest {w : World} {b off : Nat} {rs : List Raw} (h : ∀ j r, rs[j]? = some r → w.cell? ⟨b, off + j * 3, none⟩ = some (.string r.1) ∧ w.cell? ⟨b, off + j * 3 + 1, none⟩ = some (.int .u64 r.2.1) ∧ w.cell? ⟨b, off + j * 3 + 2, none⟩ = some (.slice r.2.2.1 r.2.2.2.1 r.2.2.2.2))
    (i : Nat) : ∀ k u, (rcells (rs.drop i))[k]? = some u → w.cell? (Addr.add ⟨b, off + i * 3, none⟩ k) = some u := by
  intro k u hk
  rw [rcells_drop, List.getElem?_drop] at hk
  have := runsAt_cells h _ _ hk
  rw [show Addr.add ⟨b, off + i * 3, none⟩ k = ⟨b, off + (i * 3 + k), none⟩ from by simp only [Addr.add]; split <;> simp_all [Nat.add_assoc]]
  exact this
theorem rcells_one (rs : List Raw) : ∀ u ∈ rcells rs, u.oneCell' = true := by
  intro u hu
  unfold rcells at hu
  obtain ⟨r, _, hr⟩ := List.mem_flatMap.1 hu
  exact rcell_one r u hr

set_option maxHeartbeats 2000000 in
theorem join_nil (a b : Option Addr) (c d : Nat) (ts : List Rw) (N1 N2 : Nat) (w : World) (h1 : CtxR w a c ts N1) :
    Calls Try.prog 15 #[.agg #[.slice a ts.length c], .agg #[.slice b 0 d]] w (fun e w' => GaveC (IsUnion (ts.map Rw.rn) []) (N1 + N2) w w' e) := by
  have Bx : ∀ x y z : Value, Below w.heap.size w (((w.alloc (.cells #[x] 35)).alloc (.cells #[y] 35)).alloc (.cells #[z] 35)) :=
    fun x y z => (((Below.refl _ _).alloc (Nat.le_refl _) _).alloc (by rw [Go.Deep.nblk_alloc]; omega) _).alloc (by rw [Go.Deep.nblk_alloc, Go.Deep.nblk_alloc]; omega) _
  go_enter Try.func15, Try.ntmps15
  go_wp2_with fail
  go_returns
  exact ⟨a, c, ts, rfl, (h1.now (Bx _ _ _)).mono (by omega), fun a x => by simp [has_nil], Bx _ _ _⟩

set_option maxHeartbeats 2000000 in
theorem nil_join (a b : Option Addr) (c d : Nat) (ts : List Rw) (N1 N2 : Nat) (w : World) (hne : 0 < ts.length) (h1 : CtxR w b d ts N2) :
    Calls Try.prog 15 #[.agg #[.slice a 0 c], .agg #[.slice b ts.length d]] w (fun e w' => GaveC (IsUnion [] (ts.map Rw.rn)) (N1 + N2) w w' e) := by
  have Bx : ∀ x y z : Value, Below w.heap.size w (((w.alloc (.cells #[x] 35)).alloc (.cells #[y] 35)).alloc (.cells #[z] 35)) :=
    fun x y z => (((Below.refl _ _).alloc (Nat.le_refl _) _).alloc (by rw [Go.Deep.nblk_alloc]; omega) _).alloc (by rw [Go.Deep.nblk_alloc, Go.Deep.nblk_alloc]; omega) _
  generalize hn : ts.length = n at *
  have HN : Hid (ts.length = n) := hn
  clear hn
  go_enter Try.func15, Try.ntmps15
  go_wp2_with fail
  go_returns
  exact ⟨b, d, ts, by rw [HN.out], (h1.now (Bx _ _ _)).mono (by omega), fun a x => by simp [has_nil], Bx _ _ _⟩
end Go.Proofs.Qxb6620807a
