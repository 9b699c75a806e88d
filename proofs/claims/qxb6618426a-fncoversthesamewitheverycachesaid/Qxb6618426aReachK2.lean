import Derived.Test.Qxb6618426aReachK
namespace Go.Proofs.Qxb6618426a
open Go.RowKit

/-- What the caller keeps, in memory: bl sets in bits or in ids; a filter of some of those from bl to C, or none; a filter of the roles. -/
structure KeptAt (w : World) (kb bl C W : Nat) (sh : Nat → Bool) (R : Nat) (rf : Nat → Int) : Prop where
  below : w.cell? ⟨kb, 0, none⟩ = some (.int .i32 bl)
  some_ : (∃ ad n c B, w.cell? ⟨kb, 1, none⟩ = some (.slice (some ad) n c) ∧ FiltAt w (some ad) n B ∧ bl ≤ 64 * n ∧ n ≤ 1048576 ∧ ∀ s, s < bl → B s = sh s) ∨
    (w.cell? ⟨kb, 1, none⟩ = some (.slice none 0 0) ∧ ∃ a n c f, w.cell? ⟨kb, 2, none⟩ = some (.slice a n c) ∧ n ≤ 1048576 ∧ RowAt w a n (fun j => .int .i32 (f j)) ∧ ∀ s : Nat, s < bl → bsFound n f s = sh s)
  sets : w.cell? ⟨kb, 3, none⟩ = some (.slice none 0 0) ∨ ∃ ad c B, w.cell? ⟨kb, 3, none⟩ = some (.slice (some ad) W c) ∧ FiltAt w (some ad) W B ∧ ∀ s : Nat, bl ≤ s → s < C → sh s = true → B (slotOf W s) = true
  filt : ∃ kf kc, w.cell? ⟨kb, 4, none⟩ = some (.slice (some kf) W kc) ∧ FiltOf w (some kf) W R rf

theorem cell_below {w w' : World} (hb : Below w.heap.size w w') {a : Addr} {v : Value} (h : w.cell? a = some v) : w'.cell? a = some v := by
  rw [hb.cell (World.block_lt_of_cell? _ _ h)]; exact h

theorem KeptAt.low {w w' : World} {kb bl C W : Nat} {sh : Nat → Bool} {R : Nat} {rf : Nat → Int} (h : KeptAt w kb bl C W sh R rf) (hb : Below w.heap.size w w') : KeptAt w' kb bl C W sh R rf := by
  refine ⟨cell_below hb h.below, ?_, ?_, ?_⟩
  · rcases h.some_ with ⟨ad, n, c, B, h1, h2, h3⟩ | ⟨h1, a, n, c, f, h2, h3, h4, h5⟩
    · exact Or.inl ⟨ad, n, c, B, cell_below hb h1, h2.below hb, h3⟩
    · exact Or.inr ⟨cell_below hb h1, a, n, c, f, cell_below hb h2, h3, h4.below hb, h5⟩
  · rcases h.sets with h1 | ⟨ad, c, B, h1, h2, h3⟩
    · exact Or.inl (cell_below hb h1)
    · exact Or.inr ⟨ad, c, B, cell_below hb h1, h2.below hb, h3⟩
  · obtain ⟨kf, kc, h1, h2⟩ := h.filt
    exact ⟨kf, kc, cell_below hb h1, h2.below hb⟩

set_option maxHeartbeats 1000000 in
theorem reaches_any (tb rb s : Nat) (ea ra fa : Option Addr) (E ec R rc C fc W bl : Nat) (la : Nat → Option Addr) (ln lc : Nat → Nat) (lf : Nat → Nat → Int) (rf : Nat → Int) (k : Option Addr)
    (w : World) (hs : s < E) (hE : E ≤ 1048576) (hL : ∀ i, i < E → ln i ≤ 1048576) (hR : R ≤ 1048576) (h0 : 0 < W) (hW : W ≤ 64) (hbl : bl ≤ 1048576) (ht : TreeHead w tb ea E ec fa C fc) (hr : RolesHead w rb ra R rc k)
    (hl : ListsAt w ea E la ln lc lf) (hrr : RowAt w ra R (fun j => .int .i32 (rf j))) (hF : FiltersAt w fa C W ln lf) (hm : Mono (ln s) (lf s)) (hmr : Mono R rf)
    (hk : k = none ∨ ∃ kb, k = some ⟨kb, 0, none⟩ ∧ KeptAt w kb bl C W (shareB ln lf R rf) R rf) :
    Calls Try.prog 32 #[.pointer (some ⟨tb, 0, none⟩), .pointer (some ⟨rb, 0, none⟩), .int .i32 s] w fun e w' => e = .returned (.bool (shareB ln lf R rf s)) ∧ ∃ q, w' = w.drewN q := by
  have HC : Hid (Calls Try.prog 36 #[.pointer (some ⟨tb, 0, none⟩), .pointer (some ⟨rb, 0, none⟩), .int .i32 s] w fun e w' => e = .returned (.bool (shareB ln lf R rf s)) ∧ ∃ q, w' = w.drewN q) := by
    refine holdsOne_any tb rb s ea ra fa E ec R rc C fc W la ln lc lf rf k w hs hE hL hR h0 hW ht hr hl hrr hF hm hmr ?_
    rcases hk with h | ⟨kb, h, K⟩
    · exact Or.inl h
    · obtain ⟨kf, kc, h1, h2⟩ := K.filt
      exact Or.inr ⟨kb, kf, kc, h, h1, h2⟩
  have t2 := ht.filters
  have u1 := hr.roles
  have u2 := hr.kept
  clear hL ht hr hl hrr hF hm hmr
  rcases hk with rfl | ⟨kb, rfl, K⟩
  · go_enter Try.func32, Try.ntmps32
    go_wp2_with (go_at_call 36; refine HC.out.mono ?_; rintro e w' ⟨rfl, q, rfl⟩)
    go_ret
    exact ⟨rfl, q, rfl⟩
  obtain ⟨k0, ksome, ksets, kfilt⟩ := K
  clear kfilt
  have hneq := fun w a n c => run_neq_slice_nil_any (P := Try.prog) w 40 45 a n c 0 0 Try.underlying40
  have hneq2 := fun w a n c => run_neq_slice_nil_any (P := Try.prog) w 41 45 a n c 0 0 Try.underlying41
  by_cases hlt : s < bl
  · clear HC ksets t2
    rcases ksome with ⟨ad, n, c, B, k1, ⟨F, ⟨b, off, ha, hc⟩, hB⟩, hbn, hn, hsh⟩ | ⟨k1, a, n, c, f, k2, hn, hrow, hsh⟩
    · have e := ha (by omega)
      simp only [Option.some.injEq] at e
      subst e
      have c1 : w.cell? ⟨b, off + s / 64, none⟩ = some (.int .u64 (F (s / 64))) := hc _ (by omega)
      have HB : Hid (bitAt (F (s / 64)) (s % 64) = shareB ln lf R rf s) := by
        unfold Hid; rw [hB s (by omega), hsh s hlt]
      clear hc hB hsh ha
      have hi1 : (0 : Int) ≤ (s : Int) / 64 := by omega
      have hi2 : (s : Int) / 64 < (n : Int) := by omega
      go_enter Try.func32, Try.ntmps32
      go_wp2
      go_quiet (fail)
      go_wp2
      go_ret
      exact ⟨ret_bool HB.out, _, rfl⟩
    · have HB : Hid (bsFound n f s = shareB ln lf R rf s) := hsh s hlt
      clear hsh
      go_enter Try.func32, Try.ntmps32
      go_wp2_with (go_at_call 34; refine (bs_any _ _ _ f _ _ hn hrow).mono ?_; rintro e w' ⟨⟨p, rfl⟩, rfl⟩)
      go_ret
      exact ⟨ret_bool HB.out, 0, rfl⟩
  · clear ksome
    rcases ksets with k3 | ⟨ad, c, B, k3, hB, hsh⟩
    · go_enter Try.func32, Try.ntmps32
      go_wp2_with (go_at_call 36; refine HC.out.mono ?_; rintro e w' ⟨rfl, q, rfl⟩)
      go_ret
      exact ⟨rfl, q, rfl⟩
    · by_cases hsC : s < C
      · by_cases hp : B (slotOf W s) = true
        · clear hsh
          go_enter Try.func32, Try.ntmps32
          go_wp2_with (first
            | (go_at_call 35; refine (passes_any _ _ _ _ _ _ h0 hW hB).mono ?_; rintro e w' ⟨rfl, rfl⟩)
            | (go_at_call 36; refine HC.out.mono ?_; rintro e w' ⟨rfl, q, rfl⟩))
          go_ret
          exact ⟨rfl, q, rfl⟩
        · have hp' : B (slotOf W s) = false := by simpa using hp
          have HS : Hid (shareB ln lf R rf s = false) := by
            unfold Hid
            rw [← Bool.not_eq_true]
            intro h
            exact hp (hsh s (by omega) hsC h)
          clear hsh hp
          go_enter Try.func32, Try.ntmps32
          go_wp2_with (go_at_call 35; refine (passes_any _ _ _ _ _ _ h0 hW hB).mono ?_; rintro e w' ⟨rfl, rfl⟩)
          go_ret
          exact ⟨ret_bool HS.out.symm, 0, rfl⟩
      · clear hsh
        go_enter Try.func32, Try.ntmps32
        go_wp2_with (go_at_call 36; refine HC.out.mono ?_; rintro e w' ⟨rfl, q, rfl⟩)
        go_ret
        exact ⟨rfl, q, rfl⟩
end Go.Proofs.Qxb6618426a
