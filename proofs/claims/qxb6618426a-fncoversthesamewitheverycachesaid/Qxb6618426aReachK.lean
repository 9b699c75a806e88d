import Derived.Test.Qxb6618426aFilt2
namespace Go.Proofs.Qxb6618426a
open Go.RowKit

/-- The filters of the first C sets. -/
def FiltersAt (w : World) (fa : Option Addr) (C W : Nat) (ln : Nat → Nat) (lf : Nat → Nat → Int) : Prop :=
  ∃ ff : Nat → Addr, RowAt w fa C (fun i => .slice (some (ff i)) W W) ∧ ∀ i, i < C → ∃ B, FiltAt w (some (ff i)) W B ∧ ∀ j, j < ln i → B (slotOf W (lf i j)) = true
theorem FiltersAt.below {w w' : World} {fa : Option Addr} {C W : Nat} {ln : Nat → Nat} {lf : Nat → Nat → Int} (h : FiltersAt w fa C W ln lf) (hb : Below w.heap.size w w') : FiltersAt w' fa C W ln lf := by
  obtain ⟨ff, h1, h2⟩ := h
  exact ⟨ff, h1.below hb, fun i hi => by obtain ⟨B, g1, g2⟩ := h2 i hi; exact ⟨B, g1.below hb, g2⟩⟩

/-- A filter of a list of n numbers f. -/
def FiltOf (w : World) (a : Option Addr) (W n : Nat) (f : Nat → Int) : Prop := ∃ B, FiltAt w a W B ∧ ∀ j, j < n → B (slotOf W (f j)) = true
theorem FiltOf.below {w w' : World} {a : Option Addr} {W n : Nat} {f : Nat → Int} (h : FiltOf w a W n f) (hb : Below w.heap.size w w') : FiltOf w' a W n f := by
  obtain ⟨B, h1, h2⟩ := h; exact ⟨B, h1.below hb, h2⟩
theorem FiltOf.drewN {w : World} {a : Option Addr} {W n : Nat} {f : Nat → Int} (h : FiltOf w a W n f) (q : Nat) : FiltOf (w.drewN q) a W n f := by
  obtain ⟨B, h1, h2⟩ := h; exact ⟨B, h1.drewN q, h2⟩

theorem share1 {ln : Nat → Nat} {lf : Nat → Nat → Int} {R : Nat} {rf : Nat → Int} {s : Nat} (hf : Mono (ln s) (lf s)) (hg : Mono R rf) : shOne (ln s) (lf s) R rf = shareB ln lf R rf s := by
  rw [Bool.eq_iff_iff, shareB_iff hf hg, shOne_iff hf hg]
theorem share2 {ln : Nat → Nat} {lf : Nat → Nat → Int} {R : Nat} {rf : Nat → Int} {s : Nat} (hf : Mono (ln s) (lf s)) (hg : Mono R rf) : shOne R rf (ln s) (lf s) = shareB ln lf R rf s := by
  rw [Bool.eq_iff_iff, shareB_iff hf hg, shOne_iff hg hf, share_comm]
theorem share3 {W : Nat} {B : Nat → Bool} {ln : Nat → Nat} {lf : Nat → Nat → Int} {R : Nat} {rf : Nat → Int} {s : Nat} (hf : Mono (ln s) (lf s)) (hg : Mono R rf) (hB : ∀ j, j < R → B (slotOf W (rf j)) = true) : filtB W B (ln s) (lf s) R rf = shareB ln lf R rf s := by
  rw [Bool.eq_iff_iff, shareB_iff hf hg, filtB_iff hg hB]
theorem share4 {W : Nat} {B : Nat → Bool} {ln : Nat → Nat} {lf : Nat → Nat → Int} {R : Nat} {rf : Nat → Int} {s : Nat} (hf : Mono (ln s) (lf s)) (hg : Mono R rf) (hB : ∀ j, j < ln s → B (slotOf W (lf s j)) = true) : filtB W B R rf (ln s) (lf s) = shareB ln lf R rf s := by
  rw [Bool.eq_iff_iff, shareB_iff hf hg, filtB_iff hf hB, share_comm]

set_option maxHeartbeats 1000000 in
theorem holdsOne_any (tb rb s : Nat) (ea ra fa : Option Addr) (E ec R rc C fc W : Nat) (la : Nat → Option Addr) (ln lc : Nat → Nat) (lf : Nat → Nat → Int) (rf : Nat → Int) (k : Option Addr)
    (w : World) (hs : s < E) (hE : E ≤ 1048576) (hL : ∀ i, i < E → ln i ≤ 1048576) (hR : R ≤ 1048576) (h0 : 0 < W) (hW : W ≤ 64) (ht : TreeHead w tb ea E ec fa C fc) (hr : RolesHead w rb ra R rc k)
    (hl : ListsAt w ea E la ln lc lf) (hrr : RowAt w ra R (fun j => .int .i32 (rf j))) (hF : FiltersAt w fa C W ln lf) (hm : Mono (ln s) (lf s)) (hmr : Mono R rf)
    (hk : k = none ∨ ∃ kb kf kc, k = some ⟨kb, 0, none⟩ ∧ w.cell? ⟨kb, 4, none⟩ = some (.slice (some kf) W kc) ∧ FiltOf w (some kf) W R rf) :
    Calls Try.prog 36 #[.pointer (some ⟨tb, 0, none⟩), .pointer (some ⟨rb, 0, none⟩), .int .i32 s] w fun e w' => e = .returned (.bool (shareB ln lf R rf s)) ∧ ∃ q, w' = w.drewN q := by
  obtain ⟨⟨eb, eo, hea, hec⟩, hel⟩ := hl
  obtain rfl := hea (by omega)
  have c1 := hec s hs
  have r1 := hel s hs
  have l1 := hL s hs
  have t1 := ht.enders
  have t2 := ht.filters
  have u1 := hr.roles
  have u2 := hr.kept
  have hnil := fun w a n c => Lib.run_eql_slice_nil (P := Try.prog) w 41 45 a n c 0 0 Try.underlying41
  obtain ⟨fx, fn, fcap, HF, hfx⟩ : ∃ (fx : Option Addr) (fn fcap : Nat), Hid (∀ n, Calls Try.prog 39 #[.pointer (some ⟨tb, 0, none⟩), .int .i32 s] (w.drewN n) fun e w' => e = .returned (.slice fx fn fcap) ∧ w' = w.drewN n) ∧
      (fx = none ∨ ∃ ad, fx = some ad ∧ fn = W ∧ FiltOf w (some ad) W (ln s) (lf s)) := by
    by_cases hsC : s < C
    · obtain ⟨ff, ⟨fb, fo, hfa, hfc⟩, hff⟩ := hF
      refine ⟨some (ff s), W, W, fun n => ?_, Or.inr ⟨ff s, rfl, rfl, hff s hsC⟩⟩
      exact filter_some tb s fa C fc (w.drewN n) (by omega) hsC t2 _ _ _ fb fo (hfa (by omega)) (hfc s hsC)
    · exact ⟨none, 0, 0, fun n => filter_none tb s fa C fc (w.drewN n) (by omega) (by omega) t2, Or.inl rfl⟩
  clear hec hel hL ht hr hF t2
  rcases hk with rfl | ⟨kb, kf, kc, rfl, k1, K, k2, k3⟩
  · by_cases hsw : R < ln s
    · rcases hfx with rfl | ⟨ad, rfl, rfl, B, f2, f3⟩
      · have HE : Hid (shOne R rf (ln s) (lf s) = shareB ln lf R rf s) := share2 hm hmr
        go_enter Try.func36, Try.ntmps36
        go_wp2
        go_quiet ((go_at_call 39; refine Calls.quiet_of_same (HF.out _)))
        go_wp2_with (go_at_call 40; refine (shareOne_any _ _ _ _ _ _ _ _ _ hR l1 (hrr.drewN _) (r1.drewN _)).mono ?_; rintro e w' ⟨rfl, rfl⟩)
        go_ret
        exact ⟨ret_bool HE.out, _, rfl⟩
      · have HE : Hid (filtB fn B R rf (ln s) (lf s) = shareB ln lf R rf s) := share4 hm hmr f3
        have f3 : Hid (∀ j, j < ln s → B (slotOf fn (lf s j)) = true) := f3
        go_enter Try.func36, Try.ntmps36
        go_wp2
        go_quiet ((go_at_call 39; refine Calls.quiet_of_same (HF.out _)))
        go_wp2_with (go_at_call 41; refine (holdsOneOf_any _ _ _ _ _ _ _ _ _ _ _ _ _ h0 hW hR l1 (f2.drewN _) (hrr.drewN _) (r1.drewN _)).mono ?_; rintro e w' ⟨rfl, rfl⟩)
        go_ret
        exact ⟨ret_bool HE.out, _, rfl⟩
    · clear hfx
      have HE : Hid (shOne (ln s) (lf s) R rf = shareB ln lf R rf s) := share1 hm hmr
      go_enter Try.func36, Try.ntmps36
      go_wp2
      go_quiet ((go_at_call 39; refine Calls.quiet_of_same (HF.out _)))
      go_wp2_with (go_at_call 40; refine (shareOne_any _ _ _ _ _ _ _ _ _ l1 hR (r1.drewN _) (hrr.drewN _)).mono ?_; rintro e w' ⟨rfl, rfl⟩)
      go_ret
      exact ⟨ret_bool HE.out, _, rfl⟩
  · have k3' : Hid (∀ j, j < R → K (slotOf W (rf j)) = true) := k3
    clear k3
    by_cases hsw : R < ln s
    · rcases hfx with rfl | ⟨ad, rfl, rfl, B, f2, f3⟩
      · have HE : Hid (shOne R rf (ln s) (lf s) = shareB ln lf R rf s) := share2 hm hmr
        go_enter Try.func36, Try.ntmps36
        go_wp2
        go_quiet ((go_at_call 39; refine Calls.quiet_of_same (HF.out _)))
        go_wp2_with (go_at_call 40; refine (shareOne_any _ _ _ _ _ _ _ _ _ hR l1 (hrr.drewN _) (r1.drewN _)).mono ?_; rintro e w' ⟨rfl, rfl⟩)
        go_ret
        exact ⟨ret_bool HE.out, _, rfl⟩
      · have HE : Hid (filtB fn B R rf (ln s) (lf s) = shareB ln lf R rf s) := share4 hm hmr f3
        have f3 : Hid (∀ j, j < ln s → B (slotOf fn (lf s j)) = true) := f3
        go_enter Try.func36, Try.ntmps36
        go_wp2
        go_quiet ((go_at_call 39; refine Calls.quiet_of_same (HF.out _)))
        go_wp2_with (go_at_call 41; refine (holdsOneOf_any _ _ _ _ _ _ _ _ _ _ _ _ _ h0 hW hR l1 (f2.drewN _) (hrr.drewN _) (r1.drewN _)).mono ?_; rintro e w' ⟨rfl, rfl⟩)
        go_ret
        exact ⟨ret_bool HE.out, _, rfl⟩
    · clear hfx
      have HE : Hid (filtB W K (ln s) (lf s) R rf = shareB ln lf R rf s) := share3 hm hmr k3'.out
      go_enter Try.func36, Try.ntmps36
      go_wp2
      go_quiet ((go_at_call 39; refine Calls.quiet_of_same (HF.out _)))
      go_wp2_with (go_at_call 41; refine (holdsOneOf_any _ _ _ _ _ _ _ _ _ _ _ _ _ h0 hW l1 hR (k2.drewN _) (r1.drewN _) (hrr.drewN _)).mono ?_; rintro e w' ⟨rfl, rfl⟩)
      go_ret
      exact ⟨ret_bool HE.out, _, rfl⟩
end Go.Proofs.Qxb6618426a
