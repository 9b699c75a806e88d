import Derived.Test.Qxb6618426aSizes
namespace Go.Proofs.Qxb6618426a
open Go.RowKit

set_option maxHeartbeats 1000000 in
set_option maxRecDepth 100000 in
theorem sizeOK_any (ga ea ra qa : Option Addr) (G gc E ec R rc Q qc : Nat) (pa la : Nat → Option Addr) (pn pc ln lc : Nat → Nat) (gs : Nat → Int) (ps : Nat → Nat → ByteArray) (lf : Nat → Nat → Int) (qs : Nat → ByteArray)
    (w : World) (hg : GrantsAt w ga G pa pn pc gs ps) (he : ListsAt w ea E la ln lc lf) (hq : RowAt w qa Q (fun j => .string (qs j))) (H : Sizes G pn E ln R Q) :
    Calls Try.prog 6 #[.slice ga G gc, .slice ea E ec, .slice ra R rc, .slice qa Q qc] w fun e w' => Tells True e ∧ w' = w := by
  obtain ⟨⟨gb, go, hga, hgc⟩, hgp⟩ := hg
  obtain ⟨⟨eb, eo, hea, hec⟩, hel⟩ := he
  obtain ⟨qb, qo, hqa, hqc⟩ := hq
  obtain ⟨hG, hP, hE, hL, hR, hQ⟩ := H
  go_enter Try.func6, Try.ntmps6
  go_wp2
  · go_ret
    exact ⟨Tells.no, rfl⟩
  go_loop [9, 10] (fun z i => ∃ (x : Nat) (s : Int), x ≤ Q ∧ i = .int .i64 x ∧ z = .int .i64 s ∧ 0 ≤ s ∧ s ≤ 1048576) (fun _ i => Q - (intOf i).toNat)
  case atStart => exact ⟨0, _, by omega, rfl, rfl, by omega, by omega⟩
  case round =>
    obtain ⟨x, s, hx, rfl, rfl, hs0, hs1⟩ := hrel
    by_cases hlt : x < Q
    · obtain rfl := hqa (by omega)
      have c1 := hqc x hlt
      clear hqc hgc hgp hec hel hP hL
      go_wp2
      · go_ret
        exact ⟨Tells.no, rfl⟩
      · go_ret
        exact ⟨Tells.no, rfl⟩
      · go_round
        case rel => exact ⟨x + 1, _, by omega, by go_num, rfl, by omega, by omega⟩
        case measure => simp only [intOf]; omega
    have hge : ¬ (x : Int) < (Q : Int) := by omega
    clear hqc
    go_wp2
    clear hlt hge
    go_loop [9, 11] (fun z i => ∃ (x : Nat) (s : Int), x ≤ E ∧ i = .int .i64 x ∧ z = .int .i64 s ∧ 0 ≤ s ∧ s ≤ 1048576) (fun _ i => E - (intOf i).toNat)
    case atStart => exact ⟨0, _, by omega, rfl, rfl, by omega, by omega⟩
    case round =>
      obtain ⟨x, s, hx, rfl, rfl, hs0, hs1⟩ := hrel
      by_cases hlt : x < E
      · obtain rfl := hea (by omega)
        have c1 := hec x hlt
        have l1 := hL x hlt
        clear hgc hgp hec hel hP hL
        go_wp2
        · go_ret
          exact ⟨Tells.no, rfl⟩
        · go_round
          case rel => exact ⟨x + 1, _, by omega, by go_num, rfl, by omega, by omega⟩
          case measure => simp only [intOf]; omega
      have hge : ¬ (x : Int) < (E : Int) := by omega
      clear hec hel hL
      go_wp2
      clear hlt hge
      go_loop [9, 12] (fun z i => ∃ (x : Nat) (s : Int), x ≤ G ∧ i = .int .i64 x ∧ z = .int .i64 s ∧ 0 ≤ s ∧ s ≤ 1048576) (fun _ i => G - (intOf i).toNat)
      case atStart => exact ⟨0, _, by omega, rfl, rfl, by omega, by omega⟩
      case round =>
        obtain ⟨x, s, hx, rfl, rfl, hs0, hs1⟩ := hrel
        by_cases hlt : x < G
        · obtain rfl := hga (by omega)
          have c1 := (hgc x hlt).1
          obtain ⟨pb, po, hpa, hpc⟩ := hgp x hlt
          have p1 := hP x hlt
          clear hgc hgp hP
          go_wp2
          · go_ret
            exact ⟨Tells.no, rfl⟩
          go_loop [9, 14] (fun z i => ∃ (y : Nat) (s : Int), y ≤ pn x ∧ i = .int .i64 y ∧ z = .int .i64 s ∧ 0 ≤ s ∧ s ≤ 1048576) (fun _ i => pn x - (intOf i).toNat)
          case atStart => exact ⟨0, _, by omega, rfl, rfl, by omega, by omega⟩
          case round =>
            obtain ⟨y, t, hy, rfl, rfl, ht0, ht1⟩ := hrel
            by_cases hyl : y < pn x
            · have hpa' := hpa (by omega)
              have c2 : w.cell? ⟨pb, po + y, none⟩ = some (.string (ps x y)) := hpc y hyl
              clear hpc hpa
              go_wp2
              · go_ret
                exact ⟨Tells.no, rfl⟩
              · go_ret
                exact ⟨Tells.no, rfl⟩
              · go_round
                case rel => exact ⟨y + 1, _, by omega, by go_num, rfl, by omega, by omega⟩
                case measure => simp only [intOf]; omega
            · clear hpc hpa
              go_wp2
              go_round
              case rel => exact ⟨x + 1, _, by omega, by go_num, rfl, by omega, by omega⟩
              case measure => simp only [intOf]; omega
        · clear hgc hgp hP
          go_wp2
          go_ret
          exact ⟨Tells.yes trivial, rfl⟩

theorem RowAt.drewN {w : World} {a : Option Addr} {n : Nat} {f : Nat → Value} (h : RowAt w a n f) (q : Nat) : RowAt (w.drewN q) a n f := h

structure Dom (G : Nat) (gs : Nat → Int) (E : Nat) (ln : Nat → Nat) (lf : Nat → Nat → Int) (R : Nat) (rf : Nat → Int) : Prop where
  e0 : 0 < E
  l0 : ln 0 = 0
  ls : ∀ i, i < E → sortedB (ln i) (lf i) = true
  rs : sortedB R rf = true
  gs : ∀ i, i < G → 0 ≤ gs i ∧ gs i < E

set_option maxHeartbeats 1000000 in
set_option maxRecDepth 100000 in
theorem domainOK_any (ga ea ra : Option Addr) (G gc E ec R rc Q : Nat) (pa la : Nat → Option Addr) (pn pc ln lc : Nat → Nat) (gs : Nat → Int) (ps : Nat → Nat → ByteArray) (lf : Nat → Nat → Int) (rf : Nat → Int)
    (w : World) (hg : GrantsAt w ga G pa pn pc gs ps) (he : ListsAt w ea E la ln lc lf) (hr : RowAt w ra R (fun j => .int .i32 (rf j))) (H : Sizes G pn E ln R Q)
    (hgs : ∀ i, i < G → -2147483648 ≤ gs i ∧ gs i ≤ 2147483647) :
    Calls Try.prog 7 #[.slice ga G gc, .slice ea E ec, .slice ra R rc] w fun e w' => Tells (Dom G gs E ln lf R rf) e ∧ ∃ q, w' = w.drewN q := by
  obtain ⟨⟨gb, go, hga, hgc⟩, hgp⟩ := hg
  clear hgp
  obtain ⟨⟨eb, eo, hea, hec⟩, hel⟩ := he
  obtain ⟨hG, hP, hE, hL, hR, hQ⟩ := H
  clear hP hQ
  by_cases hE0 : E = 0
  · subst hE0
    go_enter Try.func7, Try.ntmps7
    go_wp2
    go_ret
    exact ⟨Tells.no, 0, rfl⟩
  have hE1 : ((E : Int) == 0) = false := by simpa using hE0
  have hEp : 0 < E := by omega
  obtain rfl := hea hEp
  have c0 : w.cell? ⟨eb, eo, none⟩ = some (.slice (la 0) (ln 0) (lc 0)) := hec 0 hEp
  by_cases hl0 : ln 0 = 0
  case neg =>
    have hl1 : ((ln 0 : Int) == 0) = false := by simpa using hl0
    clear hgc hec hel
    go_enter Try.func7, Try.ntmps7
    go_wp2
    go_ret
    exact ⟨Tells.no, 0, rfl⟩
  have hl1 : ((ln 0 : Int) == 0) = true := by simpa using hl0
  have HL0 : Hid (ln 0 = 0) := hl0
  clear hl0 hE0
  go_enter Try.func7, Try.ntmps7
  go_wp2
  go_loopw [7] (fun i wr => ∃ (x q : Nat), x ≤ E ∧ i = .int .i64 x ∧ wr = w.drewN q ∧ Hid (∀ i, i < x → sortedB (ln i) (lf i) = true)) (fun i _ => E - (intOf i).toNat)
  case atStart => exact ⟨0, 0, by omega, rfl, rfl, by intro i hi; omega⟩
  case round =>
    obtain ⟨x, q, hx, rfl, rfl, HS⟩ := hrel
    by_cases hlt : x < E
    · have c1 := hec x hlt
      have l1 := hL x hlt
      have r1 := (hel x hlt).drewN q
      clear hgc hec hel hL
      by_cases hs : sortedB (ln x) (lf x) = true
      · have HS' : Hid (∀ i, i < x + 1 → sortedB (ln i) (lf i) = true) := fun i hi => by
          by_cases e : i = x
          · subst e; exact hs
          · exact HS.out i (by omega)
        go_wp2_with (go_at_call 21; refine (sorted_any _ _ _ _ _ l1 r1).mono ?_; rintro e w' ⟨rfl, q', rfl⟩)
        go_roundw
        case rel => exact ⟨x + 1, q + q', by omega, by go_num, by simp, HS'⟩
        case measure => simp only [intOf]; omega
      · have hs' : sortedB (ln x) (lf x) = false := by simpa using hs
        clear hs
        go_wp2_with (go_at_call 21; refine (sorted_any _ _ _ _ _ l1 r1).mono ?_; rintro e w' ⟨rfl, q', rfl⟩)
        go_ret
        exact ⟨Tells.no, q + q', by simp⟩
    have HS' : Hid (∀ i, i < E → sortedB (ln i) (lf i) = true) := fun i hi => HS.out i (by omega)
    have hge : ¬ (x : Int) < (E : Int) := by omega
    have r1 := hr.drewN q
    clear hec hel hL HS hr
    by_cases hs : sortedB R rf = true
    case neg =>
      have hs' : sortedB R rf = false := by simpa using hs
      clear hs
      go_wp2_with (go_at_call 21; refine (sorted_any _ _ _ _ _ hR r1).mono ?_; rintro e w' ⟨rfl, q', rfl⟩)
      go_ret
      exact ⟨Tells.no, q + q', by simp⟩
    go_wp2_with (go_at_call 21; refine (sorted_any _ _ _ _ _ hR r1).mono ?_; rintro e w' ⟨rfl, q', rfl⟩)
    have RS : Hid (sortedB R rf = true) := hs
    clear hlt hge r1 hs
    go_loopw [8] (fun i wr => ∃ (x q : Nat), x ≤ G ∧ i = .int .i64 x ∧ wr = w.drewN q ∧ Hid (∀ i, i < x → 0 ≤ gs i ∧ gs i < E)) (fun i _ => G - (intOf i).toNat)
    case atStart => exact ⟨0, q + q', by omega, rfl, by simp, by intro i hi; omega⟩
    case round =>
      obtain ⟨x, q, hx, rfl, rfl, HG⟩ := hrel
      by_cases hlt : x < G
      · obtain rfl := hga (by omega)
        have c1 := (hgc x hlt).2
        have b1 := hgs x hlt
        clear hgc hgs
        by_cases hn : gs x < 0
        · go_wp2
          go_ret
          exact ⟨Tells.no, q, rfl⟩
        by_cases hb : (E : Int) ≤ gs x
        · go_wp2
          go_ret
          exact ⟨Tells.no, q, rfl⟩
        have HG' : Hid (∀ i, i < x + 1 → 0 ≤ gs i ∧ gs i < E) := fun i hi => by
          by_cases e : i = x
          · subst e; omega
          · exact HG.out i (by omega)
        go_wp2
        go_roundw
        case rel => exact ⟨x + 1, q, by omega, by go_num, rfl, HG'⟩
        case measure => simp only [intOf]; omega
      have HG' : Hid (∀ i, i < G → 0 ≤ gs i ∧ gs i < E) := fun i hi => HG.out i (by omega)
      clear hgc hgs HG
      go_wp2
      go_ret
      exact ⟨Tells.yes ⟨hEp, HL0.out, HS'.out, RS.out, HG'.out⟩, q, rfl⟩
end Go.Proofs.Qxb6618426a
