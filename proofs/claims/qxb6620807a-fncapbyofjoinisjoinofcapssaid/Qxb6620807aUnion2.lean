import Derived.Test.Qxb6620807aUnion
import Derived.Deep.CutBlock
namespace Go.Proofs.Qxb6620807a
open Go.RowKit
set_option linter.unusedVariables false

theorem Said.mk' {w w' : World} {b : Bool} {e : Ending} (h : Said b w w' e) : e = .returned (.bool b) ∧ Below w.heap.size w w' := h

/-- The element at a place of a row of counters. -/
theorem own_at {w : World} {B : Nat} {ad : Option Addr} {m cap : Nat} {xs : List Value} (h : w.ownsRow B 41 1 (.slice ad m cap) m xs) {t : Nat} (ht : t < m) (hx : ∀ x ∈ xs, ∃ i, x = Value.int .u64 i) :
    ∃ g x, ad = some ⟨g, 0, none⟩ ∧ w.cell? ⟨g, t, none⟩ = some (.int .u64 x) := by
  rcases h.2 with ⟨h1, h2⟩ | ⟨g, cap', cur, h1, _⟩
  · omega
  · cases h1
    have hc := World.ownsRow.cellAt h t (by omega)
    have hl : xs.length = m := by have := h.1; omega
    obtain ⟨i, hi⟩ := hx (xs[t]'(by omega)) (List.getElem_mem _)
    exact ⟨g, i, rfl, by rw [hc, List.getElem?_eq_getElem (by omega), hi]⟩

set_option maxRecDepth 100000 in
set_option maxHeartbeats 8000000 in
theorem union_f (l r p q s : Cx) (M : Nat) (w : World) (hM : M ≤ 4194304) (hl : l.OK M) (hr : r.OK M) (hp : p.OK M) (hq : q.OK M) (hs : s.OK M)
    (al : l.At w) (ar : r.At w) (ap : p.At w) (aq : q.At w) (asx : s.At w) (hall : ∀ a x, r.Has a x ↔ p.Has a x ∨ q.Has a x ∨ s.Has a x) :
    Calls Try.prog 16 #[l.val, r.val, p.val, q.val, s.val] w (fun e w' => Said true w w' e) := by
  have HX : Hid (∀ a x, r.Has a x ↔ p.Has a x ∨ q.Has a x ∨ s.Has a x) := hall
  have HO : Hid (l.OK M ∧ r.OK M ∧ p.OK M ∧ q.OK M ∧ s.OK M) := ⟨hl, hr, hp, hq, hs⟩
  have hn : l.n ≤ 16777216 := hl.ok.hn
  have BX := boxes5 w l r p q s
  clear hall hl hr hp hq hs
  go_enter Try.func16, Try.ntmps16
  go_wp2_with fail
  generalize hw1 : ((((w.alloc l.obj).alloc r.obj).alloc p.obj).alloc q.obj).alloc s.obj = w1 at *
  have HB : Hid (Boxes5 w w1 l r p q s) := BX
  have al1 := al.now BX.below
  have HA : Hid (l.At w1 ∧ r.At w1 ∧ p.At w1 ∧ q.At w1 ∧ s.At w1) := ⟨al1, ar.now BX.below, ap.now BX.below, aq.now BX.below, asx.now BX.below⟩
  have HW : Hid (Below w.heap.size w w1) := BX.below
  have hsz1 : w1.heap.size = w.heap.size + 5 := BX.size
  have HSZ : Hid (w1.heap.size = w.heap.size + 5) := hsz1
  clear BX hw1 al ar ap aq asx al1 hsz1
  go_loopw [11, 12] (fun v i wr => ∃ k : Nat, k ≤ l.n ∧ i = .int .i64 k ∧ Below w1.heap.size w1 wr ∧ Pts w1.heap.size wr v 1073741824) (fun _ i _ => l.n - (intOf i).toNat)
  case atStart => exact ⟨0, by omega, rfl, Below.refl _ _, (Pts.nil _ _).mono (by omega)⟩
  case round =>
    obtain ⟨k, hk, rfl, hbel, hpt⟩ := hrel
    obtain ⟨-, bl, br, bp, bq, bs⟩ := HB.out.see hbel
    have hszr := hbel.size
    by_cases hlt : k < l.n
    · obtain ⟨b1, o1, e1, r1⟩ := (HA.out.1.now hbel).s
      have e1 := e1 (by omega)
      have q1 := r1 k hlt
      simp only [] at q1
      have lt' : (k : Int) < l.n := by omega
      have bl0 := bl.c0
      rw [e1] at bl0
      clear r1
      generalize l.S k = a at *
      have hform := pts_form hpt
      have HBL : Hid (Below w1.heap.size w1 wr) := hbel
      clear hpt hbel
      go_upto_region 6 with fail
      go_cut [11] (fun v wc => wc = wr ∧ Pts w1.heap.size wr v 0)
      case first =>
        rcases hform with rfl | ⟨g, kk, cap, rfl, hk1, hk2, hp0⟩
        · go_wp2_with fail
          go_meet
          case rel => exact ⟨rfl, Pts.nil _ _⟩
        · unfold maxLen at hk2
          go_wp2_with fail
          go_meet
          case rel => exact ⟨rfl, hp0⟩
      case rest =>
        obtain ⟨rfl, hp0⟩ := hcut
        clear hform bl0 q1
        obtain ⟨r0, r1, r2, rf, rl⟩ := br
        go_wp2_with fail
        refine (cx_points r M w1.heap.size w1 _ _ 0 a (by omega) (by omega) (Nat.le_refl _) hszr HBL.out HO.out.2.1 HA.out.2.1 hp0).mono ?_
        rintro e w2 ⟨v2, rfl, hp2, hb2⟩
        have z2 := hb2.size
        obtain ⟨-, bl, br, ⟨p0, p1, p2, pf, pl⟩, bq, bs⟩ := HB.out.see hb2
        clear r0 r1 r2 rf hp0 bl br bq bs pf
        go_wp2_with fail
        refine (cx_points p M w1.heap.size w1 _ _ _ a (by omega) (by omega) (Nat.le_refl _) z2 hb2 HO.out.2.2.1 HA.out.2.2.1 hp2).mono ?_
        rintro e w3 ⟨v3, rfl, hp3, hb3⟩
        have z3 := hb3.size
        obtain ⟨-, bl, br, bp, ⟨q0, q1, q2, qf, ql⟩, bs⟩ := HB.out.see hb3
        clear p0 p1 p2 hp2 hb2 z2 bl br bp bs qf
        go_wp2_with fail
        refine (cx_points q M w1.heap.size w1 _ _ _ a (by omega) (by omega) (Nat.le_refl _) z3 hb3 HO.out.2.2.2.1 HA.out.2.2.2.1 hp3).mono ?_
        rintro e w4 ⟨v4, rfl, hp4, hb4⟩
        have z4 := hb4.size
        obtain ⟨-, bl, br, bp, bq, ⟨s0, s1, s2, sf, sl⟩⟩ := HB.out.see hb4
        clear q0 q1 q2 hp3 hb3 z3 bl br bp bq sf
        go_wp2_with fail
        refine (cx_points s M w1.heap.size w1 _ _ _ a (by omega) (by omega) (Nat.le_refl _) z4 hb4 HO.out.2.2.2.2 HA.out.2.2.2.2 hp4).mono ?_
        rintro e w5 ⟨v5, rfl, hp5, hb5⟩
        obtain ⟨m, xs, hm, hown, hints⟩ := hp5
        have HI : Hid (∀ x ∈ xs, ∃ i, x = Value.int .u64 i) := hints
        have hm2 : m ≤ 1073741824 := by omega
        have hvl : ∃ ad cap, v5 = .slice ad m cap := by
          rcases hown.2 with ⟨h1, h2⟩ | ⟨g, cap, cur, h1, _⟩
          · exact ⟨none, 0, by rw [h1, h2]⟩
          · exact ⟨_, _, h1⟩
        obtain ⟨ad, cap, rfl⟩ := hvl
        clear s0 s1 s2 hp4 hb4 z4 hints hm
        go_wp2_with fail
        go_loopw [14] (fun j wx => ∃ t : Nat, t ≤ m ∧ j = .int .i64 t ∧ Below w1.heap.size w1 wx ∧ wx.ownsRow w1.heap.size 41 1 (.slice ad m cap) m xs) (fun j _ => m - (intOf j).toNat)
        case atStart => exact ⟨0, by omega, rfl, hb5, hown⟩
        case round =>
          clear hb5 hown
          obtain ⟨t, ht, rfl, hb5, hown⟩ := hrel
          by_cases hlt2 : t < m
          · obtain ⟨g, x, rfl, hc⟩ := own_at hown hlt2 HI.out
            have HR : Hid (r.Has a.toList x ↔ p.Has a.toList x ∨ q.Has a.toList x ∨ s.Has a.toList x) := HX.out _ _
            by_cases hP : p.Has a.toList x
            · obtain ⟨-, -, -, ⟨g0, g1, g2, gf, gl⟩, -, -⟩ := HB.out.see hb5
              clear gf
              go_wp2_with fail
              refine (cx_has p M a x true _ HO.out.2.2.1 (HA.out.2.2.1.now hb5) (by simp [hP])).mono ?_
              rintro e x0 ⟨rfl, k0⟩
              have hb0' := Below.step hb5 k0
              have hown0 := ownsRow_below hown k0
              clear g0 g1 g2 gl k0 hb5 hown hc
              obtain ⟨-, -, ⟨g0, g1, g2, gf, gl⟩, -, -, -⟩ := HB.out.see hb0'
              clear gf
              go_wp2_with fail
              refine (cx_has r M a x true _ HO.out.2.1 (HA.out.2.1.now hb0') (by simp [HR.out, hP])).mono ?_
              rintro e x1 ⟨rfl, k1⟩
              have hb1' := Below.step hb0' k1
              have hown1 := ownsRow_below hown0 k1
              clear g0 g1 g2 gl k1 hb0' hown0
              go_wp2_with fail
              go_roundw
              case rel => exact ⟨t + 1, by omega, by go_num, hb1', hown1⟩
              case measure => simp only [intOf]; omega
            · by_cases hQ : q.Has a.toList x
              · obtain ⟨-, -, -, ⟨g0, g1, g2, gf, gl⟩, -, -⟩ := HB.out.see hb5
                clear gf
                go_wp2_with fail
                refine (cx_has p M a x false _ HO.out.2.2.1 (HA.out.2.2.1.now hb5) (by simp [hP])).mono ?_
                rintro e x0 ⟨rfl, k0⟩
                have hb0' := Below.step hb5 k0
                have hown0 := ownsRow_below hown k0
                clear g0 g1 g2 gl k0 hb5 hown hc
                obtain ⟨-, -, -, -, ⟨g0, g1, g2, gf, gl⟩, -⟩ := HB.out.see hb0'
                clear gf
                go_wp2_with fail
                refine (cx_has q M a x true _ HO.out.2.2.2.1 (HA.out.2.2.2.1.now hb0') (by simp [hQ])).mono ?_
                rintro e x1 ⟨rfl, k1⟩
                have hb1' := Below.step hb0' k1
                have hown1 := ownsRow_below hown0 k1
                clear g0 g1 g2 gl k1 hb0' hown0
                obtain ⟨-, -, ⟨g0, g1, g2, gf, gl⟩, -, -, -⟩ := HB.out.see hb1'
                clear gf
                go_wp2_with fail
                refine (cx_has r M a x true _ HO.out.2.1 (HA.out.2.1.now hb1') (by simp [HR.out, hQ])).mono ?_
                rintro e x2 ⟨rfl, k2⟩
                have hb2' := Below.step hb1' k2
                have hown2 := ownsRow_below hown1 k2
                clear g0 g1 g2 gl k2 hb1' hown1
                go_wp2_with fail
                go_roundw
                case rel => exact ⟨t + 1, by omega, by go_num, hb2', hown2⟩
                case measure => simp only [intOf]; omega
              · by_cases hS : s.Has a.toList x
                · obtain ⟨-, -, -, ⟨g0, g1, g2, gf, gl⟩, -, -⟩ := HB.out.see hb5
                  clear gf
                  go_wp2_with fail
                  refine (cx_has p M a x false _ HO.out.2.2.1 (HA.out.2.2.1.now hb5) (by simp [hP])).mono ?_
                  rintro e x0 ⟨rfl, k0⟩
                  have hb0' := Below.step hb5 k0
                  have hown0 := ownsRow_below hown k0
                  clear g0 g1 g2 gl k0 hb5 hown hc
                  obtain ⟨-, -, -, -, ⟨g0, g1, g2, gf, gl⟩, -⟩ := HB.out.see hb0'
                  clear gf
                  go_wp2_with fail
                  refine (cx_has q M a x false _ HO.out.2.2.2.1 (HA.out.2.2.2.1.now hb0') (by simp [hQ])).mono ?_
                  rintro e x1 ⟨rfl, k1⟩
                  have hb1' := Below.step hb0' k1
                  have hown1 := ownsRow_below hown0 k1
                  clear g0 g1 g2 gl k1 hb0' hown0
                  obtain ⟨-, -, -, -, -, ⟨g0, g1, g2, gf, gl⟩⟩ := HB.out.see hb1'
                  clear gf
                  go_wp2_with fail
                  refine (cx_has s M a x true _ HO.out.2.2.2.2 (HA.out.2.2.2.2.now hb1') (by simp [hS])).mono ?_
                  rintro e x2 ⟨rfl, k2⟩
                  have hb2' := Below.step hb1' k2
                  have hown2 := ownsRow_below hown1 k2
                  clear g0 g1 g2 gl k2 hb1' hown1
                  obtain ⟨-, -, ⟨g0, g1, g2, gf, gl⟩, -, -, -⟩ := HB.out.see hb2'
                  clear gf
                  go_wp2_with fail
                  refine (cx_has r M a x true _ HO.out.2.1 (HA.out.2.1.now hb2') (by simp [HR.out, hS])).mono ?_
                  rintro e x3 ⟨rfl, k3⟩
                  have hb3' := Below.step hb2' k3
                  have hown3 := ownsRow_below hown2 k3
                  clear g0 g1 g2 gl k3 hb2' hown2
                  go_wp2_with fail
                  go_roundw
                  case rel => exact ⟨t + 1, by omega, by go_num, hb3', hown3⟩
                  case measure => simp only [intOf]; omega
                · obtain ⟨-, -, -, ⟨g0, g1, g2, gf, gl⟩, -, -⟩ := HB.out.see hb5
                  clear gf
                  go_wp2_with fail
                  refine (cx_has p M a x false _ HO.out.2.2.1 (HA.out.2.2.1.now hb5) (by simp [hP])).mono ?_
                  rintro e x0 ⟨rfl, k0⟩
                  have hb0' := Below.step hb5 k0
                  have hown0 := ownsRow_below hown k0
                  clear g0 g1 g2 gl k0 hb5 hown hc
                  obtain ⟨-, -, -, -, ⟨g0, g1, g2, gf, gl⟩, -⟩ := HB.out.see hb0'
                  clear gf
                  go_wp2_with fail
                  refine (cx_has q M a x false _ HO.out.2.2.2.1 (HA.out.2.2.2.1.now hb0') (by simp [hQ])).mono ?_
                  rintro e x1 ⟨rfl, k1⟩
                  have hb1' := Below.step hb0' k1
                  have hown1 := ownsRow_below hown0 k1
                  clear g0 g1 g2 gl k1 hb0' hown0
                  obtain ⟨-, -, -, -, -, ⟨g0, g1, g2, gf, gl⟩⟩ := HB.out.see hb1'
                  clear gf
                  go_wp2_with fail
                  refine (cx_has s M a x false _ HO.out.2.2.2.2 (HA.out.2.2.2.2.now hb1') (by simp [hS])).mono ?_
                  rintro e x2 ⟨rfl, k2⟩
                  have hb2' := Below.step hb1' k2
                  have hown2 := ownsRow_below hown1 k2
                  clear g0 g1 g2 gl k2 hb1' hown1
                  obtain ⟨-, -, ⟨g0, g1, g2, gf, gl⟩, -, -, -⟩ := HB.out.see hb2'
                  clear gf
                  go_wp2_with fail
                  refine (cx_has r M a x false _ HO.out.2.1 (HA.out.2.1.now hb2') (by simp [HR.out, hP, hQ, hS])).mono ?_
                  rintro e x3 ⟨rfl, k3⟩
                  have hb3' := Below.step hb2' k3
                  have hown3 := ownsRow_below hown2 k3
                  clear g0 g1 g2 gl k3 hb2' hown2
                  go_wp2_with fail
                  go_roundw
                  case rel => exact ⟨t + 1, by omega, by go_num, hb3', hown3⟩
                  case measure => simp only [intOf]; omega
          · obtain rfl : m = t := by omega
            go_wp2_with fail
            go_roundw
            case rel => exact ⟨k + 1, by omega, by go_num, hb5, m, xs, hm2, hown, HI.out⟩
            case measure => simp only [intOf]; omega
    · obtain rfl : k = l.n := by omega
      obtain ⟨d0, d1, d2, df, dl⟩ := bl
      have HE := Below.step HW.out hbel
      have HE : Hid (Below w.heap.size w wr) := HE
      clear hpt br bp bq bs
      go_wp2_with fail
      go_ret
      exact ⟨rfl, HE.out⟩
end Go.Proofs.Qxb6620807a
