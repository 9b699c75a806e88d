import Derived.Test.Qxb6618426aReach
import Derived.Deep.RegionWith
namespace Go.Proofs.Qxb6618426a
open Go.RowKit

/-- What covers comes to at the node of path p. -/
def covB (D : List Pth) (E : Nat → Int) (sh : Nat → Bool) : List ByteArray → Pth → Bool
  | [], p => decide (ix D p < D.length) && sh (E (ix D p)).toNat
  | s :: rs, p => decide (ix D p < D.length) && ((!decide (s = star) && covB D E sh rs (p ++ [s])) || covB D E sh rs (p ++ [star]))

theorem covB_out {D : List Pth} {E : Nat → Int} {sh : Nat → Bool} {rs : List ByteArray} {p : Pth} (h : p ∉ D) : covB D E sh rs p = false := by
  have h' : ¬ ix D p < D.length := fun hh => h (ix_lt.1 hh)
  cases rs <;> simp only [covB, h'] <;> simp

def segs (m : Nat) (qs : Nat → ByteArray) : List ByteArray := (List.range m).map qs
theorem segs_succ (m : Nat) (qs : Nat → ByteArray) : segs (m + 1) qs = qs 0 :: segs m (fun j => qs (j + 1)) := by
  simp [segs, List.range_succ_eq_map, List.map_map, Function.comp_def]

theorem covers_nil (t r : Value) (a : Option Addr) (n c : Nat) (w : World) : Calls Try.prog 28 #[t, .pointer none, .slice a n c, r] w fun e w' => e = .returned (.bool false) ∧ ∃ q, w' = w.drewN q := by
  go_enter Try.func28, Try.ntmps28
  go_wp2
  go_ret
  exact ⟨rfl, 0, rfl⟩

theorem Dr.tree {w wr : World} (h : Dr w wr) {N : Nat} {D : List Pth} {E : Nat → Int} (ht : Tree w N D E) : Tree wr N D E := by obtain ⟨q, rfl⟩ := h; exact ⟨fun i hi => ht.node i hi, fun i hi => ht.lits i hi⟩

theorem ptr_nil {N : Nat} {D : List Pth} {p : Pth} (h : p ∉ D) : ptr N D p = .pointer none := by unfold ptr; rw [ptr?_none h]; rfl
theorem ptr_at {N : Nat} {D : List Pth} {p : Pth} (h : p ∈ D) : ptr N D p = .pointer (some ⟨N + 2 * ix D p + 1, 0, none⟩) := by unfold ptr ptr?; rw [if_pos (ix_lt.2 h)]; rfl
theorem ptr_form (N : Nat) (D : List Pth) (p : Pth) : ∃ x, ptr N D p = .pointer x := by
  by_cases h : p ∈ D
  · exact ⟨_, ptr_at h⟩
  · exact ⟨_, ptr_nil h⟩

set_option maxHeartbeats 1000000 in
theorem covers_any (tb rb N : Nat) (D : List Pth) (E : Nat → Int) (sh : Nat → Bool) (w0 : World) (ht : Tree w0 N D E)
    (hreach : ∀ w, Dr w0 w → ∀ k, k < D.length → Calls Try.prog 32 #[.pointer (some ⟨tb, 0, none⟩), .pointer (some ⟨rb, 0, none⟩), .int .i32 (E k)] w fun e w' => e = .returned (.bool (sh (E k).toNat)) ∧ ∃ q, w' = w.drewN q) :
    ∀ (m : Nat), m ≤ 1048576 → ∀ (qa : Option Addr) (qc : Nat) (qs : Nat → ByteArray) (p : Pth) (w : World), Dr w0 w → RowAt w qa m (fun j => .string (qs j)) → m ≤ qc →
    Calls Try.prog 28 #[.pointer (some ⟨tb, 0, none⟩), ptr N D p, .slice qa m qc, .pointer (some ⟨rb, 0, none⟩)] w fun e w' => e = .returned (.bool (covB D E sh (segs m qs) p)) ∧ ∃ q, w' = w.drewN q := by
  intro m
  induction m with
  | zero =>
    intro hm qa qc qs p w hd hq hmc
    by_cases hpD : p ∈ D
    · have hi := ix_lt.2 hpD
      have hnode := (hd.tree ht).node _ hi
      have c2 : w.cell? ⟨N + 2 * ix D p + 1, 2, none⟩ = some (.int .i32 (E (ix D p))) := hnode.cell (by omega)
      have HR := hreach w hd _ hi
      have HR : Hid (Calls Try.prog 32 #[.pointer (some ⟨tb, 0, none⟩), .pointer (some ⟨rb, 0, none⟩), .int .i32 (E (ix D p))] w fun e w' => e = .returned (.bool (sh (E (ix D p)).toNat)) ∧ ∃ q, w' = w.drewN q) := HR
      rw [ptr_at hpD]
      have HF : Hid (covB D E sh (segs 0 qs) p = sh (E (ix D p)).toNat) := by simp [Hid, segs, covB, hi]
      clear hreach hnode ht
      go_enter Try.func28, Try.ntmps28
      go_wp2_with (go_at_call 32; refine (HR.out).mono ?_; rintro e w' ⟨rfl, q, rfl⟩)
      go_ret
      exact ⟨ret_bool HF.out.symm, q, rfl⟩
    · rw [ptr_nil hpD, covB_out hpD]
      exact covers_nil _ _ _ _ _ _
  | succ m ih =>
    intro hm qa qc qs p w hd hq hmc
    by_cases hpD : p ∈ D
    · have hi := ix_lt.2 hpD
      have hnode := (hd.tree ht).node _ hi
      have hlit := (hd.tree ht).lits _ hi
      have hgp : D.getD (ix D p) [] = p := by rw [List.getD, List.getElem?_eq_getElem hi, Option.getD_some]; exact ix_get hi
      obtain ⟨qb, qo, hqa, hqc⟩ := hq
      obtain rfl := hqa (by omega)
      have c0 : w.cell? ⟨N + 2 * ix D p + 1, 0, none⟩ = some (.map (some (N + 2 * ix D p))) := hnode.cell (by omega)
      obtain ⟨wx, hwx⟩ := ptr_form N D (p ++ [star])
      have c1 : w.cell? ⟨N + 2 * ix D p + 1, 1, none⟩ = some (.pointer wx) := by
        rw [hnode.cell (i := 1) (by omega)]; simp only [nodeF]; rw [hgp, hwx]
      have c3 : w.cell? ⟨qb, qo, none⟩ = some (.string (qs 0)) := hqc 0 (by omega)
      obtain ⟨i28, hi28, hz28⟩ := Option.map_eq_some_iff.1 Try.info28
      have hl1 := fun n => (MapHolds.of_block hlit (w' := w.drewN n) rfl).look Try.underlying58 Try.underlying9 hi28 hz28 (qs 0)
      rw [ptr_at hpD]
      have hr : ∀ n, RowAt (w.drewN n) (if qc = 1 then some ⟨qb, qo, none⟩ else some ⟨qb, qo + 1, none⟩) m (fun j => .string (qs (j + 1))) := by
        intro n
        by_cases e : qc = 1
        · rw [if_pos e]
          exact ⟨qb, qo, fun _ => rfl, fun j hj => by omega⟩
        · rw [if_neg e]
          exact ⟨qb, qo + 1, fun _ => rfl, fun j hj => by have := hqc (j + 1) (by omega); rw [show qo + 1 + j = qo + (j + 1) from by omega]; exact this⟩
      have HA : Hid (∀ n p', Calls Try.prog 28 #[.pointer (some ⟨tb, 0, none⟩), ptr N D p', .slice (if qc = 1 then some ⟨qb, qo, none⟩ else some ⟨qb, qo + 1, none⟩) m (qc - 1), .pointer (some ⟨rb, 0, none⟩)] (w.drewN n) fun e w' => e = .returned (.bool (covB D E sh (segs m (fun j => qs (j + 1))) p')) ∧ ∃ q, w' = (w.drewN n).drewN q) :=
        fun n p' => ih (by omega) _ (qc - 1) (fun j => qs (j + 1)) p' (w.drewN n) (hd.on n) (hr n) (by omega)
      have ihW := fun n => HA.out n (p ++ [star])
      rw [hwx] at ihW
      have HW : Hid (∀ n, Calls Try.prog 28 #[.pointer (some ⟨tb, 0, none⟩), .pointer wx, .slice (if qc = 1 then some ⟨qb, qo, none⟩ else some ⟨qb, qo + 1, none⟩) m (qc - 1), .pointer (some ⟨rb, 0, none⟩)] (w.drewN n) fun e w' => e = .returned (.bool (covB D E sh (segs m (fun j => qs (j + 1))) (p ++ [star]))) ∧ ∃ q, w' = (w.drewN n).drewN q) := ihW
      clear ihW
      by_cases hst : qs 0 = star
      · have hl2 : ∀ n, (Instr.lookup 58 (.map (some (N + 2 * ix D p))) (.string (qs 0)) false).run Try.prog (w.drewN n) = .ok (.pointer none) (w.drewN n) := by
          intro n; rw [hl1 n]; simp [litF, hst]
        have HF : Hid (covB D E sh (segs (m + 1) qs) p = covB D E sh (segs m (fun j => qs (j + 1))) (p ++ [star])) := by
          unfold Hid; rw [segs_succ, covB]; simp [hi, hst]
        clear hl1 hreach ih hnode hlit hgp ht hqc hr hst
        clear HA
        go_enter Try.func28, Try.ntmps28
        go_wp2
        go_quiet ((first
          | (go_at_call_of 28 (Value.pointer none); refine Calls.quiet_of (covers_nil _ _ _ _ _ _))
          | (go_at_call_of 28 (Value.pointer wx); refine Calls.quiet_of (HW.out _))))
        go_wp2
        all_goals
          go_ret
          exact ⟨ret_bool HF.out.symm, _, rfl⟩
      · obtain ⟨lx, hlx⟩ := ptr_form N D (p ++ [qs 0])
        have hl2 : ∀ n, (Instr.lookup 58 (.map (some (N + 2 * ix D p))) (.string (qs 0)) false).run Try.prog (w.drewN n) = .ok (.pointer lx) (w.drewN n) := by
          intro n; rw [hl1 n]; simp only [litF]; rw [if_neg hst, hgp, ← hlx]; rfl
        have ihL := fun n => HA.out n (p ++ [qs 0])
        rw [hlx] at ihL
        by_cases hcv : covB D E sh (segs m (fun j => qs (j + 1))) (p ++ [qs 0]) = true
        · rw [hcv] at ihL
          have HL : Hid (∀ n, Calls Try.prog 28 #[.pointer (some ⟨tb, 0, none⟩), .pointer lx, .slice (if qc = 1 then some ⟨qb, qo, none⟩ else some ⟨qb, qo + 1, none⟩) m (qc - 1), .pointer (some ⟨rb, 0, none⟩)] (w.drewN n) fun e w' => e = .returned (.bool true) ∧ ∃ q, w' = (w.drewN n).drewN q) := ihL
          have HF : Hid (covB D E sh (segs (m + 1) qs) p = true) := by
            unfold Hid; rw [segs_succ, covB]; simp [hi, hst, hcv]
          clear hl1 hreach ih hnode hlit hgp ht hqc hr hst HA HW ihL hcv hwx hlx
          go_enter Try.func28, Try.ntmps28
          go_wp2
          go_quiet ((go_at_call_of 28 (Value.pointer lx); refine Calls.quiet_of (HL.out _)))
          go_wp2
          all_goals
            go_ret
            exact ⟨ret_bool HF.out.symm, _, rfl⟩
        · have hcv' : covB D E sh (segs m (fun j => qs (j + 1))) (p ++ [qs 0]) = false := by simpa using hcv
          rw [hcv'] at ihL
          have HL : Hid (∀ n, Calls Try.prog 28 #[.pointer (some ⟨tb, 0, none⟩), .pointer lx, .slice (if qc = 1 then some ⟨qb, qo, none⟩ else some ⟨qb, qo + 1, none⟩) m (qc - 1), .pointer (some ⟨rb, 0, none⟩)] (w.drewN n) fun e w' => e = .returned (.bool false) ∧ ∃ q, w' = (w.drewN n).drewN q) := ihL
          have HF : Hid (covB D E sh (segs (m + 1) qs) p = covB D E sh (segs m (fun j => qs (j + 1))) (p ++ [star])) := by
            unfold Hid; rw [segs_succ, covB]; simp [hi, hcv']
          by_cases hsame : lx = wx
          · have HS : Hid (covB D E sh (segs m (fun j => qs (j + 1))) (p ++ [star]) = false) := by
              by_cases hS : p ++ [star] ∈ D
              · exfalso
                rw [ptr_at hS] at hwx
                rw [hsame, ← hwx] at hlx
                by_cases hL : p ++ [qs 0] ∈ D
                · rw [ptr_at hL] at hlx
                  have e1 : ix D (p ++ [qs 0]) = ix D (p ++ [star]) := by
                    simp only [Value.pointer.injEq, Option.some.injEq, Addr.mk.injEq] at hlx
                    omega
                  have e2 := ix_get (ix_lt.2 hL)
                  have e3 := ix_get (ix_lt.2 hS)
                  have e4 : p ++ [qs 0] = p ++ [star] := by rw [← e2, ← e3]; simp only [e1]
                  exact hst (app_inj e4).2
                · rw [ptr_nil hL] at hlx
                  simp at hlx
              · exact covB_out hS
            subst hsame
            clear hl1 hreach ih hnode hlit hgp ht hqc hr hst HA ihL hcv hcv' hwx hlx HW
            go_enter Try.func28, Try.ntmps28
            go_wp2
            go_quiet ((go_at_call_of 28 (Value.pointer lx); refine Calls.quiet_of (HL.out _)))
            go_wp2
            all_goals
              go_ret
              exact ⟨ret_bool (by rw [HF.out, HS.out]), _, rfl⟩
          · clear hl1 hreach ih hnode hlit hgp ht hqc hr hst HA ihL hcv hcv' hwx hlx
            have HNE : Hid (¬ lx = wx) := hsame
            clear hsame
            go_enter Try.func28, Try.ntmps28
            go_wp2
            go_quiet ((first
              | (go_at_call_of 28 (Value.pointer lx); refine Calls.quiet_of (HL.out _))
              | (go_at_call_of 28 (Value.pointer wx); refine Calls.quiet_of (HW.out _))))
            go_wp2
            all_goals
              go_ret
              exact ⟨ret_bool HF.out.symm, _, rfl⟩
    · rw [ptr_nil hpD, covB_out hpD]
      exact covers_nil _ _ _ _ _ _
end Go.Proofs.Qxb6618426a
