import Derived.Test.Qxb6619267aDoorPlain
import Derived.Laws.CopyOwn
import Derived.Deep.OwnRows
namespace Go.Proofs.Qxb6619267aDoor
open Go.RowKit
set_option linter.unusedVariables false

theorem Tryd.info5 : (Tryd.prog.info? 5).map (fun i => (i.zero, i.size, i.bytes)) = some (some (.int .u8 0), 1, 1) := by kernel_rfl
theorem Tryd.size5 : (Tryd.prog.info? 5).map (·.size) = some 1 := by kernel_rfl

def Laid (w w2 : World) (n : Nat) (f : Nat → Int) : Prop := Below w.heap.size w w2 ∧ RowAt w2 (some ⟨w.heap.size, 0, none⟩) n (fun j => .int .u8 (f j))

theorem run_copy_new (w : World) (ad : Addr) (n cap : Nat) (f : Nat → Int) (h : RowAt w (some ad) n (fun j => .int .u8 (f j))) :
    ∃ w2, (Builtin.copy_ #[22, 22] 3 #[.slice (some ⟨w.heap.size, 0, none⟩) n n, .slice (some ad) n cap]).run Tryd.prog (w.alloc (.cells (madeCells #[.int .u8 0] n) 5)) = .ok (.int .i64 n) w2 ∧ Hid (Laid w w2 n f) := by
  have hg := Go.Deep.blk_alloc_new w (.cells (madeCells #[.int .u8 0] n) 5)
  have hal : Below w.heap.size w (w.alloc (.cells (madeCells #[.int .u8 0] n) 5)) := (Below.refl _ _).alloc (Nat.le_refl _) _
  have hlen : ((List.range n).map (fun j => Value.int .u8 (f j))).length = n := by simp
  by_cases h0 : n = 0
  · subst h0
    refine ⟨_, run_copy_none (P := Tryd.prog) _ 22 22 3 5 _ _ 0 0 0 cap Tryd.underlying22 Tryd.size5 rfl, hal, ⟨w.heap.size, 0, fun h => absurd h (by omega), fun j hj => absurd hj (by omega)⟩⟩
  · obtain ⟨b, off, ha, hc⟩ := h
    have e := ha (by omega)
    simp only [Option.some.injEq] at e
    subst e
    have hr := run_copy_row (P := Tryd.prog) _ 22 22 3 5 w.heap.size 0 n n ⟨b, off, none⟩ n cap (madeCells #[.int .u8 0] n) 5 ((List.range n).map (fun j => Value.int .u8 (f j))) Tryd.underlying22 Tryd.size5 hg (by rw [hlen]; exact (Nat.min_self n).symm)
      (by
        intro j v hj
        have hjn : j < n := by
          have := (List.getElem?_eq_some_iff.1 hj).1
          rw [hlen] at this; exact this
        have hv : v = .int .u8 (f j) := by simpa [hjn] using hj.symm
        subst hv
        have hcj := hc j hjn
        rw [show (Addr.add ⟨b, off, none⟩ j) = ⟨b, off + j, none⟩ from by simp [Addr.add], hal.cell (p := ⟨b, off + j, none⟩) (World.block_lt_of_cell? _ _ hcj)]
        exact hcj)
      (by rw [hlen, size_madeCells]; omega)
      (by
        intro v hv
        obtain ⟨j, _, rfl⟩ := List.mem_map.1 hv
        rfl)
    rw [hlen] at hr
    refine ⟨_, hr, below_setRow hal (Nat.le_refl _) _, ⟨w.heap.size, 0, fun _ => rfl, fun j hj => ?_⟩⟩
    rw [cell_setRow_same _ _ _ _ _ _ _ hg]
    have hsz : (madeCells #[Value.int .u8 0] n).toList.drop (0 + n) = [] := by
      apply List.drop_eq_nil_of_le
      have := size_madeCells #[Value.int .u8 0] n
      simp only [Array.length_toList]; omega
    rw [hsz]
    simp [hj]

set_option maxHeartbeats 1000000 in
theorem law_any (a : Option Addr) (n cap : Nat) (at_ : Int) (f : Nat → Int) (w : World) (h0 : a = none → n = 0) (hcap : n ≤ cap) (hcap2 : cap ≤ 9223372036854775807) (hb : ∀ j, j < n → 0 ≤ f j ∧ f j ≤ 255) (h : RowAt w a n (fun j => .int .u8 (f j))) (te : TypeId) (pe : Value) (hv : w.cell? ⟨1, 0, none⟩ = some (.iface te pe)) :
    Calls Tryd.prog 3 #[.slice a n cap, .int .i64 at_] w fun e w' => e = .returned (.bool true) ∧ Below w.heap.size w w' := by
  by_cases h1 : n ≤ 65536
  · by_cases h2 : at_ ≤ n
    · have h1' : n ≤ 1048576 := by omega
      have hneq := fun w => run_neq_slice_nil_any (P := Tryd.prog) w 22 5 a n cap 0 0 Tryd.underlying22
      have HP : Hid (outB f (objB f at_.toNat) = outB f (runB f at_.toNat)) := by unfold Hid; rw [objB_eq]
      cases a with
      | none =>
        obtain rfl := h0 rfl
        simp only [Option.isNone_none, Bool.not_true] at hneq
        go_enter Tryd.func3, Tryd.ntmps3
        go_wp2_with (first
          | (go_at_call 5; refine (bytes_any _ _ _ _ _).mono ?_; rintro e w' ⟨rfl, hw⟩; subst w')
          | (go_at_call 6; refine (defined_any _ _ _ _ f _ (by omega) hcap hcap2 (by omega) hb h).mono ?_; rintro e w' ⟨rfl, hw⟩; subst w')
          | (go_at_call 7; refine (object_out _ _ _ _ f _ (by omega) hcap hcap2 (by omega) hb h te pe hv).mono ?_; rintro e w' ⟨rfl, hbl⟩; rw [HP.out]))
        go_ret
        exact ⟨ret_bool (by simp), hbl⟩
      | some ad =>
        have hmk := run_make_row' (P := Tryd.prog) 22 5 (.int .u8 0) 1 Tryd.underlying22 Tryd.info5 rfl .i64 .i64 n (by omega) (by omega)
        simp only [Option.isNone_some, Bool.not_false] at hneq
        obtain ⟨w2, hcp, HL⟩ := run_copy_new w ad n cap f h
        have hv2 : w2.cell? ⟨1, 0, none⟩ = some (.iface te pe) := by
          rw [HL.out.1.cell (p := ⟨1, 0, none⟩) (World.block_lt_of_cell? _ _ hv)]; exact hv
        have hr2 := HL.out.2
        go_enter Tryd.func3, Tryd.ntmps3
        go_wp2_with (first
          | (go_at_call 5; refine (bytes_any _ _ _ _ _).mono ?_; rintro e w' ⟨rfl, hw⟩; subst w')
          | (go_at_call 6; refine (defined_any _ _ _ _ f _ (by omega) (Nat.le_refl _) (by omega) (by omega) hb hr2).mono ?_; rintro e w' ⟨rfl, hw⟩; subst w')
          | (go_at_call 7; refine (object_out _ _ _ _ f _ (by omega) (Nat.le_refl _) (by omega) (by omega) hb hr2 te pe hv2).mono ?_; rintro e w' ⟨rfl, hbl⟩; rw [HP.out]))
        go_ret
        exact ⟨ret_bool (by simp), HL.out.1.trans (hbl.mono HL.out.1.size)⟩
    · by_cases h3 : n ≤ 1048576
      · go_enter Tryd.func3, Tryd.ntmps3
        go_wp2_with (go_at_call 5; refine (bytes_any _ _ _ _ _).mono ?_; rintro e w' ⟨rfl, hw⟩; subst w')
        go_ret
        exact ⟨rfl, Below.refl _ _⟩
      · omega
  · by_cases h3 : n ≤ 1048576
    all_goals
      go_enter Tryd.func3, Tryd.ntmps3
      go_wp2_with (go_at_call 5; refine (bytes_any _ _ _ _ _).mono ?_; rintro e w' ⟨rfl, hw⟩; subst w')
      go_ret
      exact ⟨rfl, Below.refl _ _⟩
end Go.Proofs.Qxb6619267aDoor
