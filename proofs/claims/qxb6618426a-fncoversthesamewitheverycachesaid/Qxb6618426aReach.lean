import Derived.Test.Qxb6618426aBuild
namespace Go.Proofs.Qxb6618426a
open Go.RowKit

/-- The tree's own block, as far as a check reads it: its sets and its filters. -/
structure TreeHead (w : World) (tb : Nat) (ea : Option Addr) (E ec : Nat) (fa : Option Addr) (F fc : Nat) : Prop where
  enders : w.cell? ⟨tb, 5, none⟩ = some (.slice ea E ec)
  filters : w.cell? ⟨tb, 6, none⟩ = some (.slice fa F fc)
/-- The caller's own block: its roles and what it keeps. -/
structure RolesHead (w : World) (rb : Nat) (ra : Option Addr) (R rc : Nat) (k : Option Addr) : Prop where
  roles : w.cell? ⟨rb, 1, none⟩ = some (.slice ra R rc)
  kept : w.cell? ⟨rb, 2, none⟩ = some (.pointer k)

theorem TreeHead.below {w w' : World} {tb : Nat} {ea : Option Addr} {E ec : Nat} {fa : Option Addr} {F fc : Nat} (h : TreeHead w tb ea E ec fa F fc) (hb : Below w.heap.size w w') : TreeHead w' tb ea E ec fa F fc :=
  ⟨by rw [hb.cell (World.block_lt_of_cell? _ _ h.enders)]; exact h.enders, by rw [hb.cell (World.block_lt_of_cell? _ _ h.filters)]; exact h.filters⟩
theorem RolesHead.below {w w' : World} {rb : Nat} {ra : Option Addr} {R rc : Nat} {k : Option Addr} (h : RolesHead w rb ra R rc k) (hb : Below w.heap.size w w') : RolesHead w' rb ra R rc k :=
  ⟨by rw [hb.cell (World.block_lt_of_cell? _ _ h.roles)]; exact h.roles, by rw [hb.cell (World.block_lt_of_cell? _ _ h.kept)]; exact h.kept⟩

theorem filter_none (tb : Nat) (s : Nat) (fa : Option Addr) (F fc : Nat) (w : World) (hs : s ≤ 1048576) (hF : F ≤ s) (h : w.cell? ⟨tb, 6, none⟩ = some (.slice fa F fc)) :
    Calls Try.prog 39 #[.pointer (some ⟨tb, 0, none⟩), .int .i32 s] w fun e w' => e = .returned (.slice none 0 0) ∧ w' = w := by
  go_enter Try.func39, Try.ntmps39
  go_wp2
  go_ret
  exact ⟨rfl, rfl⟩

theorem filter_some (tb : Nat) (s : Nat) (fa : Option Addr) (F fc : Nat) (w : World) (hs : s ≤ 1048576) (hF : s < F) (h : w.cell? ⟨tb, 6, none⟩ = some (.slice fa F fc)) (a : Option Addr) (n c : Nat)
    (fb fo : Nat) (hfa : fa = some ⟨fb, fo, none⟩) (h2 : w.cell? ⟨fb, fo + s, none⟩ = some (.slice a n c)) :
    Calls Try.prog 39 #[.pointer (some ⟨tb, 0, none⟩), .int .i32 s] w fun e w' => e = .returned (.slice a n c) ∧ w' = w := by
  subst hfa
  go_enter Try.func39, Try.ntmps39
  go_wp2
  go_ret
  exact ⟨rfl, rfl⟩

/-- What holdsOne comes to where neither list has a filter. -/
def plainB (ln : Nat → Nat) (lf : Nat → Nat → Int) (R : Nat) (rf : Nat → Int) (s : Nat) : Bool :=
  if R < ln s then shOne R rf (ln s) (lf s) else shOne (ln s) (lf s) R rf

set_option maxHeartbeats 1000000 in
theorem holdsOne_plain (tb rb s : Nat) (ea ra : Option Addr) (E ec R rc : Nat) (la : Nat → Option Addr) (ln lc : Nat → Nat) (lf : Nat → Nat → Int) (rf : Nat → Int)
    (w : World) (hs : s < E) (hE : E ≤ 1048576) (hL : ∀ i, i < E → ln i ≤ 1048576) (hR : R ≤ 1048576) (ht : TreeHead w tb ea E ec none 0 0) (hr : RolesHead w rb ra R rc none)
    (hl : ListsAt w ea E la ln lc lf) (hrr : RowAt w ra R (fun j => .int .i32 (rf j))) :
    Calls Try.prog 36 #[.pointer (some ⟨tb, 0, none⟩), .pointer (some ⟨rb, 0, none⟩), .int .i32 s] w fun e w' => e = .returned (.bool (plainB ln lf R rf s)) ∧ ∃ q, w' = w.drewN q := by
  obtain ⟨⟨eb, eo, hea, hec⟩, hel⟩ := hl
  obtain rfl := hea (by omega)
  have c1 := hec s hs
  have r1 := hel s hs
  have l1 := hL s hs
  have t1 := ht.enders
  have t2 := ht.filters
  have u1 := hr.roles
  have u2 := hr.kept
  have hnil := fun w => Lib.run_eql_slice_nil (P := Try.prog) w 41 45 none 0 0 0 0 Try.underlying41
  clear hec hel hL
  by_cases hsw : R < ln s
  · have HE : Hid (plainB ln lf R rf s = shOne R rf (ln s) (lf s)) := by unfold Hid plainB; rw [if_pos hsw]
    go_enter Try.func36, Try.ntmps36
    go_wp2
    go_quiet ((go_at_call 39; refine Calls.quiet_of_same (filter_none _ _ _ _ _ _ (by omega) (by omega) t2)))
    go_wp2_with (go_at_call 40; refine (shareOne_any _ _ _ _ _ _ _ _ _ hR l1 (hrr.drewN _) (r1.drewN _)).mono ?_; rintro e w' ⟨rfl, rfl⟩)
    go_ret
    exact ⟨ret_bool HE.out.symm, _, rfl⟩
  · have HE : Hid (plainB ln lf R rf s = shOne (ln s) (lf s) R rf) := by unfold Hid plainB; rw [if_neg hsw]
    go_enter Try.func36, Try.ntmps36
    go_wp2
    go_quiet ((go_at_call 39; refine Calls.quiet_of_same (filter_none _ _ _ _ _ _ (by omega) (by omega) t2)))
    go_wp2_with (go_at_call 40; refine (shareOne_any _ _ _ _ _ _ _ _ _ l1 hR (r1.drewN _) (hrr.drewN _)).mono ?_; rintro e w' ⟨rfl, rfl⟩)
    go_ret
    exact ⟨ret_bool HE.out.symm, _, rfl⟩

set_option maxHeartbeats 1000000 in
theorem reaches_plain (tb rb s : Nat) (ea ra : Option Addr) (E ec R rc : Nat) (la : Nat → Option Addr) (ln lc : Nat → Nat) (lf : Nat → Nat → Int) (rf : Nat → Int)
    (w : World) (hs : s < E) (hE : E ≤ 1048576) (hL : ∀ i, i < E → ln i ≤ 1048576) (hR : R ≤ 1048576) (ht : TreeHead w tb ea E ec none 0 0) (hr : RolesHead w rb ra R rc none)
    (hl : ListsAt w ea E la ln lc lf) (hrr : RowAt w ra R (fun j => .int .i32 (rf j))) :
    Calls Try.prog 32 #[.pointer (some ⟨tb, 0, none⟩), .pointer (some ⟨rb, 0, none⟩), .int .i32 s] w fun e w' => e = .returned (.bool (plainB ln lf R rf s)) ∧ ∃ q, w' = w.drewN q := by
  have HC : Hid (∀ w, TreeHead w tb ea E ec none 0 0 → RolesHead w rb ra R rc none → ListsAt w ea E la ln lc lf → RowAt w ra R (fun j => .int .i32 (rf j)) → Calls Try.prog 36 #[.pointer (some ⟨tb, 0, none⟩), .pointer (some ⟨rb, 0, none⟩), .int .i32 s] w fun e w' => e = .returned (.bool (plainB ln lf R rf s)) ∧ ∃ q, w' = w.drewN q) :=
    fun w a b c d => holdsOne_plain tb rb s ea ra E ec R rc la ln lc lf rf w hs hE hL hR a b c d
  have u1 := hr.roles
  have u2 := hr.kept
  go_enter Try.func32, Try.ntmps32
  go_wp2_with (go_at_call 36; refine (HC.out _ ht hr hl hrr).mono ?_; rintro e w' ⟨rfl, q, rfl⟩)
  go_ret
  exact ⟨rfl, q, rfl⟩
end Go.Proofs.Qxb6618426a
