import Derived.Test.Qxb6618426aSizes2
namespace Go.Proofs.Qxb6618426a
open Go.RowKit

/-- The set shares a role with the caller. -/
def shareB (ln : Nat → Nat) (lf : Nat → Nat → Int) (R : Nat) (rf : Nat → Int) (s : Nat) : Bool := merge (ln s) (lf s) R rf (ln s + R) 0 0
/-- A later grant has the path of grant i. -/
def replB (G : Nat) (pn : Nat → Nat) (ps : Nat → Nat → ByteArray) (i : Nat) : Bool := anyTo (fun j => decide (i < j) && sameB (pn j) (ps j) (pn i) (ps i)) G
def hitB (G : Nat) (pn : Nat → Nat) (gs : Nat → Int) (ps : Nat → Nat → ByteArray) (ln : Nat → Nat) (lf : Nat → Nat → Int) (R : Nat) (rf : Nat → Int) (Q : Nat) (qs : Nat → ByteArray) (i : Nat) : Bool :=
  matchB (pn i) (ps i) Q qs && (shareB ln lf R rf (gs i).toNat && !replB G pn ps i)
def modelB (G : Nat) (pn : Nat → Nat) (gs : Nat → Int) (ps : Nat → Nat → ByteArray) (ln : Nat → Nat) (lf : Nat → Nat → Int) (R : Nat) (rf : Nat → Int) (Q : Nat) (qs : Nat → ByteArray) : Bool :=
  anyTo (hitB G pn gs ps ln lf R rf Q qs) G

theorem replB_no {G : Nat} {pn : Nat → Nat} {ps : Nat → Nat → ByteArray} {i : Nat} (h : ∀ j, i < j → j < G → sameB (pn j) (ps j) (pn i) (ps i) = false) : replB G pn ps i = false := by
  rw [← Bool.not_eq_true, replB, anyTo_iff]
  rintro ⟨j, hj, hh⟩
  simp only [Bool.and_eq_true, decide_eq_true_eq] at hh
  rw [h j hh.1 hj] at hh
  simp at hh

theorem replB_yes {G : Nat} {pn : Nat → Nat} {ps : Nat → Nat → ByteArray} {i j : Nat} (h1 : i < j) (h2 : j < G) (h : sameB (pn j) (ps j) (pn i) (ps i) = true) : replB G pn ps i = true :=
  anyTo_hit h2 (by simp [h1, h])

/-- The world after some draws. -/
def Dr (w wr : World) : Prop := ∃ q, wr = w.drewN q
theorem Dr.cell {w wr : World} (h : Dr w wr) (a : Addr) : wr.cell? a = w.cell? a := by obtain ⟨q, rfl⟩ := h; rfl
theorem Dr.row {w wr : World} (h : Dr w wr) {a : Option Addr} {n : Nat} {f : Nat → Value} (hr : RowAt w a n f) : RowAt wr a n f := by obtain ⟨q, rfl⟩ := h; exact hr
theorem Dr.on {w wr : World} (h : Dr w wr) (n : Nat) : Dr w (wr.drewN n) := by obtain ⟨q, rfl⟩ := h; exact ⟨q + n, World.drewN_drewN ..⟩
theorem Dr.refl (w : World) : Dr w w := ⟨0, rfl⟩
theorem Dr.drew {w wr : World} (h : Dr w wr) : Dr w wr.drew := h.on 1

theorem anyTo_no {p : Nat → Bool} {x : Nat} (h1 : anyTo p x = false) (h2 : p x = false) : Hid (anyTo p (x + 1) = false) := by
  simp only [Hid, anyTo, h1, h2, Bool.or_false]

set_option maxHeartbeats 1000000 in
set_option maxRecDepth 100000 in
theorem model_any (ga ea ra qa : Option Addr) (G gc E ec R rc Q qc : Nat) (pa la : Nat → Option Addr) (pn pc ln lc : Nat → Nat) (gs : Nat → Int) (ps : Nat → Nat → ByteArray) (lf : Nat → Nat → Int) (rf : Nat → Int) (qs : Nat → ByteArray)
    (w : World) (hg : GrantsAt w ga G pa pn pc gs ps) (he : ListsAt w ea E la ln lc lf) (hr : RowAt w ra R (fun j => .int .i32 (rf j))) (hq : RowAt w qa Q (fun j => .string (qs j))) (H : Sizes G pn E ln R Q)
    (hgs : ∀ i, i < G → 0 ≤ gs i ∧ gs i < E) :
    Calls Try.prog 15 #[.slice ga G gc, .slice ea E ec, .slice ra R rc, .slice qa Q qc] w fun e w' => e = .returned (.bool (modelB G pn gs ps ln lf R rf Q qs)) ∧ ∃ q, w' = w.drewN q := by
  obtain ⟨⟨gb, go, hga, hgc⟩, hgp⟩ := hg
  obtain ⟨⟨eb, eo, hea, hec⟩, hel⟩ := he
  obtain ⟨hG, hP, hE, hL, hR, hQ⟩ := H
  go_enter Try.func15, Try.ntmps15
  go_wp2
  go_loopw [9] (fun i wr => ∃ (x q : Nat), x ≤ G ∧ i = .int .i64 x ∧ wr = w.drewN q ∧ Hid (anyTo (hitB G pn gs ps ln lf R rf Q qs) x = false)) (fun i _ => G - (intOf i).toNat)
  case atStart => exact ⟨0, 0, by omega, rfl, rfl, rfl⟩
  case round =>
    obtain ⟨x, q, hx, rfl, rfl, HM⟩ := hrel
    by_cases hlt : x < G
    · obtain rfl := hga (by omega)
      have c1 := (hgc x hlt).1
      have c2 := (hgc x hlt).2
      have p1 := hP x hlt
      obtain ⟨sx, hsx⟩ : ∃ sx : Nat, gs x = sx := ⟨(gs x).toNat, by have := hgs x hlt; omega⟩
      have hsE : sx < E := by have := hgs x hlt; omega
      have hsx' : (gs x).toNat = sx := by omega
      obtain rfl := hea (by omega)
      have c3 := hec sx hsE
      have l3 := hL sx hsE
      by_cases hm : matchB (pn x) (ps x) Q qs = true
      case neg =>
        have hm' : matchB (pn x) (ps x) Q qs = false := by simpa using hm
        have rp := (hgp x hlt).drewN q
        clear hm hgc hgp hec hel hP hL hgs
        go_wp2_with (go_at_call 29; refine (matches_any _ _ _ _ _ _ _ _ _ p1 hQ rp (hq.drewN _)).mono ?_; rintro e w' ⟨rfl, q', rfl⟩)
        go_roundw
        case rel => exact ⟨x + 1, q + q', by omega, by go_num, rfl, anyTo_no HM.out (by simp only [hitB, hm']; simp)⟩
        case measure => simp only [intOf]; omega
      by_cases hs : shareB ln lf R rf sx = true
      case neg =>
        have hs' : shareB ln lf R rf sx = false := by simpa using hs
        have hs2 : merge (ln sx) (lf sx) R rf (ln sx + R) 0 0 = false := hs'
        have rp := (hgp x hlt).drewN q
        have rl := fun n => (hel sx hsE).drewN n
        clear hs hgc hgp hec hel hP hL hgs
        go_wp2_with (first
          | (go_at_call 29; refine (matches_any _ _ _ _ _ _ _ _ _ p1 hQ rp (hq.drewN _)).mono ?_; rintro e w' ⟨rfl, q', rfl⟩)
          | (go_at_call 18; refine (shares_any _ _ _ _ _ _ _ _ _ l3 hR (rl _) (hr.drewN _)).mono ?_; rintro e w' ⟨rfl, q'', rfl⟩))
        go_roundw
        case rel => exact ⟨x + 1, _, by omega, by go_num, rfl, anyTo_no HM.out (by simp only [hitB, hsx', hs']; simp)⟩
        case measure => simp only [intOf]; omega
      have hs2 : merge (ln sx) (lf sx) R rf (ln sx + R) 0 0 = true := hs
      have rp := (hgp x hlt).drewN q
      have rl := fun n => (hel sx hsE).drewN n
      clear hec hel hL hgs
      go_wp2_with (first
        | (go_at_call 29; refine (matches_any _ _ _ _ _ _ _ _ _ p1 hQ rp (hq.drewN _)).mono ?_; rintro e w' ⟨rfl, q', rfl⟩)
        | (go_at_call 18; refine (shares_any _ _ _ _ _ _ _ _ _ l3 hR (rl _) (hr.drewN _)).mono ?_; rintro e w' ⟨rfl, q'', rfl⟩))
      have HH : Hid (replB G pn ps x = false → hitB G pn gs ps ln lf R rf Q qs x = true) := fun h => by simp [hitB, hm, hsx', hs, h]
      have HN : Hid (replB G pn ps x = true → hitB G pn gs ps ln lf R rf Q qs x = false) := fun h => by simp [hitB, h]
      clear rl hs2 hs hm c2 c3 hsx hsx' hsE l3 hr hq
      go_loopw [10, 11] (fun r j wr => ∃ (y : Nat), x < y ∧ y ≤ G ∧ j = .int .i64 y ∧ r = .bool false ∧ Dr w wr ∧ Hid (∀ j, x < j → j < y → sameB (pn j) (ps j) (pn x) (ps x) = false)) (fun _ j _ => G - (intOf j).toNat)
      case atStart => exact ⟨x + 1, by omega, by omega, by go_num, rfl, ⟨_, rfl⟩, by intro j h1 h2; omega⟩
      case round =>
        obtain ⟨y, hy1, hy2, rfl, rfl, HW, HS⟩ := hrel
        by_cases hyl : y < G
        · have d1 := (HW.cell _).trans (hgc y hyl).1
          have d2 := (HW.cell _).trans c1
          have py := hP y hyl
          have ry := HW.row (hgp y hyl)
          have rx := HW.row (hgp x hlt)
          clear hgc hgp hP rp
          by_cases hsm : sameB (pn y) (ps y) (pn x) (ps x) = true
          · have E : Hid (hitB G pn gs ps ln lf R rf Q qs x = false) := HN.out (replB_yes hy1 hyl hsm)
            go_wp2
            go_quiet ((go_at_call 30; refine Calls.quiet_of (same_any _ _ _ _ _ _ _ _ _ py p1 (ry.drewN _) (rx.drewN _))))
            rw [hsm]
            go_wp2
            go_roundw
            case rel =>
              obtain ⟨u, hu⟩ := HW.on nq
              exact ⟨x + 1, u, by omega, by go_num, hu, anyTo_no HM.out E.out⟩
            case measure => simp only [intOf]; omega
          · have hsm' : sameB (pn y) (ps y) (pn x) (ps x) = false := by simpa using hsm
            clear hsm
            go_wp2
            go_quiet ((go_at_call 30; refine Calls.quiet_of (same_any _ _ _ _ _ _ _ _ _ py p1 (ry.drewN _) (rx.drewN _))))
            rw [hsm']
            go_wp2
            go_roundw
            case rel => exact ⟨y + 1, by omega, by omega, by go_num, rfl, HW.on nq, by
              intro j h1 h2
              by_cases e : j = y
              · subst e; exact hsm'
              · exact HS.out j h1 (by omega)⟩
            case measure => simp only [intOf]; omega
        · have E : Hid (hitB G pn gs ps ln lf R rf Q qs x = true) := HH.out (replB_no fun j h1 h2 => HS.out j h1 (by omega))
          clear hgc hgp hP rp
          go_wp2
          go_ret
          exact ⟨ret_bool (by unfold modelB; rw [anyTo_hit hlt E.out]), HW⟩
    · obtain rfl : x = G := by omega
      clear hgc hec hel hP hL hgs hgp
      go_wp2
      go_ret
      exact ⟨ret_bool (by unfold modelB; rw [HM.out]), q, rfl⟩
end Go.Proofs.Qxb6618426a
