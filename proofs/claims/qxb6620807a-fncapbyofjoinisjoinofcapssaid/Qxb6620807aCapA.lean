import Derived.Test.Qxb6620807aUnion2
namespace Go.Proofs.Qxb6620807a
open Go.RowKit
set_option linter.unusedVariables false

def Cx.Last (c : Cx) (a : List UInt8) (m : Int) : Prop := LastF c.n c.S c.U c.L c.F a m
theorem cx_last_in (c : Cx) {M : Nat} (hG : c.OK M) {a : List UInt8} {m : Int} (h : c.Last a m) : In64 m := by
  rcases h with ⟨i, hi, _, rfl⟩ | ⟨_, rfl⟩
  · unfold lastV
    split
    · exact hG.u i hi
    · exact hG.f i hi _ (by omega)
  · exact ⟨by omega, by omega⟩
theorem cx_last (c : Cx) (M : Nat) (a : ByteArray) (w : World) (hG : c.OK M) (h : c.At w) :
    Calls Try.prog 37 #[c.val, .string a] w (fun e w' => ∃ m, e = .returned (.int .u64 m) ∧ c.Last a.toList m ∧ In64 m ∧ Below w.heap.size w w') := by
  refine (last_f c.a1 c.a2 c.a3 c.n c.c1 c.c2 c.c3 c.S c.U c.A c.L c.C c.F a w hG.ok h).mono ?_
  rintro e w' ⟨m, rfl, hl, hb⟩
  exact ⟨m, rfl, hl, cx_last_in c hG hl, hb⟩

set_option maxRecDepth 100000 in
set_option maxHeartbeats 8000000 in
theorem capA_f (l r p q s : Cx) (M : Nat) (w : World) (hM : M ≤ 4194304) (hl : l.OK M) (hr : r.OK M) (hp : p.OK M) (hq : q.OK M) (hs : s.OK M)
    (al : l.At w) (ar : r.At w) (ap : p.At w) (aq : q.At w) (asx : s.At w) (hall : ∀ a x m, s.Last a m → (r.Has a x ↔ (p.Has a x ∨ q.Has a x) ∧ x ≤ m)) :
    Calls Try.prog 21 #[l.val, r.val, p.val, q.val, s.val] w (fun e w' => Said true w w' e) := by
  obtain ⟨i41, hi41, hz41, hs41, hb41⟩ := info_parts Try.info41
  have HX : Hid (∀ a x m, s.Last a m → (r.Has a x ↔ (p.Has a x ∨ q.Has a x) ∧ x ≤ m)) := hall
  have HO : Hid (l.OK M ∧ r.OK M ∧ p.OK M ∧ q.OK M ∧ s.OK M) := ⟨hl, hr, hp, hq, hs⟩
  have hn : l.n ≤ 16777216 := hl.ok.hn
  have BX := boxes5 w l r p q s
  clear hall hl hr hp hq hs
  go_enter Try.func21, Try.ntmps21
  go_wp2_with fail
  generalize hw1 : ((((w.alloc l.obj).alloc r.obj).alloc p.obj).alloc q.obj).alloc s.obj = w1 at *
  have HB : Hid (Boxes5 w w1 l r p q s) := BX
  have al1 := al.now BX.below
  have HA : Hid (l.At w1 ∧ r.At w1 ∧ p.At w1 ∧ q.At w1 ∧ s.At w1) := ⟨al1, ar.now BX.below, ap.now BX.below, aq.now BX.below, asx.now BX.below⟩
  have HW : Hid (Below w.heap.size w w1) := BX.below
  have hsz1 : w1.heap.size = w.heap.size + 5 := BX.size
  have HSZ : Hid (w1.heap.size = w.heap.size + 5) := hsz1
  clear BX hw1 al ar ap aq asx al1 hsz1
  go_loopw [11, 12] (fun v i wr => ∃ k : Nat, k ≤ l.n ∧ i = .int .i64 k ∧ Below w1.heap.size w1 wr ∧ Pts w1.heap.size wr v 1073741824) (fun _ i _ => l.n - (intOf i).toNat)
  case atStart => exact ⟨0, by omega, rfl, Below.refl _ _, (Pts.nil _ _).mono (by omega)⟩
  case round =>
    obtain ⟨k, hk, rfl, hbel, hpt⟩ := hrel
    obtain ⟨-, bl, br, bp, bq, bs⟩ := HB.out.see hbel
    have hszr := hbel.size
    by_cases hlt : k < l.n
    · obtain ⟨b1, o1, e1, r1⟩ := (HA.out.1.now hbel).s
      have e1 := e1 (by omega)
      have q1 := r1 k hlt
      simp only [] at q1
      have lt' : (k : Int) < l.n := by omega
      have bl0 := bl.c0
      rw [e1] at bl0
      clear r1
      generalize l.S k = a at *
      obtain ⟨s0, s1, s2, sf, sl⟩ := bs
      clear sf
      go_wp2_with fail
      refine (cx_last s M a _ HO.out.2.2.2.2 (HA.out.2.2.2.2.now hbel)).mono ?_
      rintro e wl ⟨mx, rfl, hmx, ⟨hm0, hm1⟩, hbl⟩
      have HMX : Hid (s.Last a.toList mx) := hmx
      have hpt := hpt.now hbl
      have hbel := Below.step hbel hbl
      have hszr := hbel.size
      clear s0 s1 s2 sl hmx hbl bl br bp bq
      obtain ⟨-, bl, br, bp, bq, bs⟩ := HB.out.see hbel
      have hform := pts_form hpt
      have HBL : Hid (Below w1.heap.size w1 wl) := hbel
      clear hpt hbel
      go_upto_region 7 with fail
      go_cut [11] (fun v wc => wc = wl ∧ Pts w1.heap.size wl v 0)
      case first =>
        rcases hform with rfl | ⟨g, kk, cap, rfl, hk1, hk2, hp0⟩
        · go_wp2_with fail
          go_meet
          case rel => exact ⟨rfl, Pts.nil _ _⟩
        · unfold maxLen at hk2
          go_wp2_with fail
          go_meet
          case rel => exact ⟨rfl, hp0⟩
      case rest =>
        obtain ⟨rfl, hp0⟩ := hcut
        clear hform bl0 q1
        obtain ⟨r0, r1, r2, rf, rl⟩ := br
        go_wp2_with fail
        refine (cx_points r M w1.heap.size w1 _ _ 0 a (by omega) (by omega) (Nat.le_refl _) hszr HBL.out HO.out.2.1 HA.out.2.1 hp0).mono ?_
        rintro e w2 ⟨v2, rfl, hp2, hb2⟩
        have z2 := hb2.size
        obtain ⟨-, bl, br, ⟨p0, p1, p2, pf, pl⟩, bq, bs⟩ := HB.out.see hb2
        clear r0 r1 r2 rf hp0 bl br bq bs pf
        go_wp2_with fail
        refine (cx_points p M w1.heap.size w1 _ _ _ a (by omega) (by omega) (Nat.le_refl _) z2 hb2 HO.out.2.2.1 HA.out.2.2.1 hp2).mono ?_
        rintro e w3 ⟨v3, rfl, hp3, hb3⟩
        have z3 := hb3.size
        obtain ⟨-, bl, br, bp, ⟨q0, q1, q2, qf, ql⟩, bs⟩ := HB.out.see hb3
        clear p0 p1 p2 hp2 hb2 z2 bl br bp bs qf
        go_wp2_with fail
        refine (cx_points q M w1.heap.size w1 _ _ _ a (by omega) (by omega) (Nat.le_refl _) z3 hb3 HO.out.2.2.2.1 HA.out.2.2.2.1 hp3).mono ?_
        rintro e w4 ⟨v4, rfl, hp4, hb4⟩
        have z4 := hb4.size
        clear q0 q1 q2 hp3 hb3 z3
        obtain ⟨n4, xs4, hn4, hown4, hx4⟩ := hp4
        have HX4 : Hid (∀ x ∈ xs4, ∃ i, x = Value.int .u64 i) := hx4
        clear hx4
        go_wp2_with (at_builtin; refine wpList_append_own _ rfl _ _ 23 rfl w1.heap.size 41 i41 _ 1 8 Try.underlying23 hi41 hz41 hs41 hb41 rfl (by decide) _ n4 xs4 rfl (World.ownsRow.alloc hown4 _) ⟨w4.heap.size, 0, none⟩ 1 1 [.int .u64 mx] rfl rfl (new1 _ _ _) (by simp [Value.oneCell']) (by unfold maxLen; omega) (by omega) (size_alloc_le2 z4 _) ?_)
        intro v6 w6 own6 gr6 _
        have b6 := pts_step (Nat.le_refl _) z4 hb4 _ hown4 gr6
        have z6 := b6.size
        have HX6 := ints_one HX4.out mx
        generalize xs4 ++ [.int .u64 mx] = xs6 at *
        clear hown4 HX4 hb4 z4 gr6
        go_upto_if 52 with fail
        go_cut [11] (fun v wc => Below w1.heap.size w1 wc ∧ Pts w1.heap.size wc v (n4 + 2))
        case first =>
          by_cases hlm : mx < 18446744073709551615
          · go_wp2_with (at_builtin; refine wpList_append_own _ rfl _ _ 23 rfl w1.heap.size 41 i41 _ 1 8 Try.underlying23 hi41 hz41 hs41 hb41 rfl (by decide) _ (n4 + 1) xs6 rfl (World.ownsRow.alloc own6 _) ⟨w6.heap.size, 0, none⟩ 1 1 [.int .u64 (mx + 1)] rfl rfl (new1 _ _ _) (by simp [Value.oneCell']) (by unfold maxLen; omega) (by omega) (size_alloc_le2 z6 _) ?_)
            intro v7 w7 own7 gr7 _
            have b7 := pts_step (Nat.le_refl _) z6 b6 _ own6 gr7
            have HX7 := ints_one HX6.out (mx + 1)
            clear own6 HX6 b6 z6
            go_wp2_with fail
            go_meet
            case rel => exact ⟨b7, _, _, Nat.le_refl _, own7, HX7.out⟩
          · obtain rfl : mx = 18446744073709551615 := by omega
            go_wp2_with fail
            go_meet
            case rel => exact ⟨b6, _, _, Nat.le_succ _, own6, HX6.out⟩
        case rest =>
        obtain ⟨hb5, hp5⟩ := hcut
        clear own6 HX6 b6 z6
        obtain ⟨m, xs, hm, hown, hints⟩ := hp5
        have HI : Hid (∀ x ∈ xs, ∃ i, x = Value.int .u64 i) := hints
        have hm2 : m ≤ 1073741824 := by omega
        have hvl : ∃ ad cap, u11 = .slice ad m cap := by
          rcases hown.2 with ⟨h1, h2⟩ | ⟨g, cap, cur, h1, _⟩
          · exact ⟨none, 0, by rw [h1, h2]⟩
          · exact ⟨_, _, h1⟩
        obtain ⟨ad, cap, rfl⟩ := hvl
        clear hints hm
        go_wp2_with fail
        go_loopw [15] (fun j wx => ∃ t : Nat, t ≤ m ∧ j = .int .i64 t ∧ Below w1.heap.size w1 wx ∧ wx.ownsRow w1.heap.size 41 1 (.slice ad m cap) m xs) (fun j _ => m - (intOf j).toNat)
        case atStart => exact ⟨0, by omega, rfl, hb5, hown⟩
        case round =>
          clear hb5 hown
          obtain ⟨t, ht, rfl, hb5, hown⟩ := hrel
          by_cases hlt2 : t < m
          · obtain ⟨g, x, rfl, hc⟩ := own_at hown hlt2 HI.out
            have HR : Hid (r.Has a.toList x ↔ (p.Has a.toList x ∨ q.Has a.toList x) ∧ x ≤ mx) := HX.out _ _ _ HMX.out
            by_cases hP : p.Has a.toList x
            · by_cases hxm : x ≤ mx
              · obtain ⟨-, -, -, ⟨g0, g1, g2, gf, gl⟩, -, -⟩ := HB.out.see hb5
                clear gf
                go_wp2_with fail
                refine (cx_has p M a x true _ HO.out.2.2.1 (HA.out.2.2.1.now hb5) (by simp [hP])).mono ?_
                rintro e x0 ⟨rfl, k0⟩
                have hb0' := Below.step hb5 k0
                have hown0 := ownsRow_below hown k0
                clear g0 g1 g2 gl k0 hb5 hown hc
                obtain ⟨-, -, ⟨g0, g1, g2, gf, gl⟩, -, -, -⟩ := HB.out.see hb0'
                clear gf
                go_wp2_with fail
                refine (cx_has r M a x true _ HO.out.2.1 (HA.out.2.1.now hb0') (by simp [HR.out, hP, hxm])).mono ?_
                rintro e x1 ⟨rfl, k1⟩
                have hb1' := Below.step hb0' k1
                have hown1 := ownsRow_below hown0 k1
                clear g0 g1 g2 gl k1 hb0' hown0
                go_wp2_with fail
                go_roundw
                case rel => exact ⟨t + 1, by omega, by go_num, hb1', hown1⟩
                case measure => simp only [intOf]; omega
              · have hxm' : decide (x ≤ mx) = false := by simp; omega
                obtain ⟨-, -, -, ⟨g0, g1, g2, gf, gl⟩, -, -⟩ := HB.out.see hb5
                clear gf
                go_wp2_with fail
                refine (cx_has p M a x true _ HO.out.2.2.1 (HA.out.2.2.1.now hb5) (by simp [hP])).mono ?_
                rintro e x0 ⟨rfl, k0⟩
                have hb0' := Below.step hb5 k0
                have hown0 := ownsRow_below hown k0
                clear g0 g1 g2 gl k0 hb5 hown hc
                obtain ⟨-, -, ⟨g0, g1, g2, gf, gl⟩, -, -, -⟩ := HB.out.see hb0'
                clear gf
                go_wp2_with fail
                refine (cx_has r M a x false _ HO.out.2.1 (HA.out.2.1.now hb0') (by simp [HR.out, hxm])).mono ?_
                rintro e x1 ⟨rfl, k1⟩
                have hb1' := Below.step hb0' k1
                have hown1 := ownsRow_below hown0 k1
                clear g0 g1 g2 gl k1 hb0' hown0
                go_wp2_with fail
                go_roundw
                case rel => exact ⟨t + 1, by omega, by go_num, hb1', hown1⟩
                case measure => simp only [intOf]; omega
            · by_cases hQ : q.Has a.toList x
              · by_cases hxm : x ≤ mx
                · obtain ⟨-, -, -, ⟨g0, g1, g2, gf, gl⟩, -, -⟩ := HB.out.see hb5
                  clear gf
                  go_wp2_with fail
                  refine (cx_has p M a x false _ HO.out.2.2.1 (HA.out.2.2.1.now hb5) (by simp [hP])).mono ?_
                  rintro e x0 ⟨rfl, k0⟩
                  have hb0' := Below.step hb5 k0
                  have hown0 := ownsRow_below hown k0
                  clear g0 g1 g2 gl k0 hb5 hown hc
                  obtain ⟨-, -, -, -, ⟨g0, g1, g2, gf, gl⟩, -⟩ := HB.out.see hb0'
                  clear gf
                  go_wp2_with fail
                  refine (cx_has q M a x true _ HO.out.2.2.2.1 (HA.out.2.2.2.1.now hb0') (by simp [hQ])).mono ?_
                  rintro e x1 ⟨rfl, k1⟩
                  have hb1' := Below.step hb0' k1
                  have hown1 := ownsRow_below hown0 k1
                  clear g0 g1 g2 gl k1 hb0' hown0
                  obtain ⟨-, -, ⟨g0, g1, g2, gf, gl⟩, -, -, -⟩ := HB.out.see hb1'
                  clear gf
                  go_wp2_with fail
                  refine (cx_has r M a x true _ HO.out.2.1 (HA.out.2.1.now hb1') (by simp [HR.out, hQ, hxm])).mono ?_
                  rintro e x2 ⟨rfl, k2⟩
                  have hb2' := Below.step hb1' k2
                  have hown2 := ownsRow_below hown1 k2
                  clear g0 g1 g2 gl k2 hb1' hown1
                  go_wp2_with fail
                  go_roundw
                  case rel => exact ⟨t + 1, by omega, by go_num, hb2', hown2⟩
                  case measure => simp only [intOf]; omega
                · have hxm' : decide (x ≤ mx) = false := by simp; omega
                  obtain ⟨-, -, -, ⟨g0, g1, g2, gf, gl⟩, -, -⟩ := HB.out.see hb5
                  clear gf
                  go_wp2_with fail
                  refine (cx_has p M a x false _ HO.out.2.2.1 (HA.out.2.2.1.now hb5) (by simp [hP])).mono ?_
                  rintro e x0 ⟨rfl, k0⟩
                  have hb0' := Below.step hb5 k0
                  have hown0 := ownsRow_below hown k0
                  clear g0 g1 g2 gl k0 hb5 hown hc
                  obtain ⟨-, -, -, -, ⟨g0, g1, g2, gf, gl⟩, -⟩ := HB.out.see hb0'
                  clear gf
                  go_wp2_with fail
                  refine (cx_has q M a x true _ HO.out.2.2.2.1 (HA.out.2.2.2.1.now hb0') (by simp [hQ])).mono ?_
                  rintro e x1 ⟨rfl, k1⟩
                  have hb1' := Below.step hb0' k1
                  have hown1 := ownsRow_below hown0 k1
                  clear g0 g1 g2 gl k1 hb0' hown0
                  obtain ⟨-, -, ⟨g0, g1, g2, gf, gl⟩, -, -, -⟩ := HB.out.see hb1'
                  clear gf
                  go_wp2_with fail
                  refine (cx_has r M a x false _ HO.out.2.1 (HA.out.2.1.now hb1') (by simp [HR.out, hxm])).mono ?_
                  rintro e x2 ⟨rfl, k2⟩
                  have hb2' := Below.step hb1' k2
                  have hown2 := ownsRow_below hown1 k2
                  clear g0 g1 g2 gl k2 hb1' hown1
                  go_wp2_with fail
                  go_roundw
                  case rel => exact ⟨t + 1, by omega, by go_num, hb2', hown2⟩
                  case measure => simp only [intOf]; omega
              · obtain ⟨-, -, -, ⟨g0, g1, g2, gf, gl⟩, -, -⟩ := HB.out.see hb5
                clear gf
                go_wp2_with fail
                refine (cx_has p M a x false _ HO.out.2.2.1 (HA.out.2.2.1.now hb5) (by simp [hP])).mono ?_
                rintro e x0 ⟨rfl, k0⟩
                have hb0' := Below.step hb5 k0
                have hown0 := ownsRow_below hown k0
                clear g0 g1 g2 gl k0 hb5 hown hc
                obtain ⟨-, -, -, -, ⟨g0, g1, g2, gf, gl⟩, -⟩ := HB.out.see hb0'
                clear gf
                go_wp2_with fail
                refine (cx_has q M a x false _ HO.out.2.2.2.1 (HA.out.2.2.2.1.now hb0') (by simp [hQ])).mono ?_
                rintro e x1 ⟨rfl, k1⟩
                have hb1' := Below.step hb0' k1
                have hown1 := ownsRow_below hown0 k1
                clear g0 g1 g2 gl k1 hb0' hown0
                obtain ⟨-, -, ⟨g0, g1, g2, gf, gl⟩, -, -, -⟩ := HB.out.see hb1'
                clear gf
                go_wp2_with fail
                refine (cx_has r M a x false _ HO.out.2.1 (HA.out.2.1.now hb1') (by simp [HR.out, hP, hQ])).mono ?_
                rintro e x2 ⟨rfl, k2⟩
                have hb2' := Below.step hb1' k2
                have hown2 := ownsRow_below hown1 k2
                clear g0 g1 g2 gl k2 hb1' hown1
                go_wp2_with fail
                go_roundw
                case rel => exact ⟨t + 1, by omega, by go_num, hb2', hown2⟩
                case measure => simp only [intOf]; omega
          · obtain rfl : m = t := by omega
            go_wp2_with fail
            go_roundw
            case rel => exact ⟨k + 1, by omega, by go_num, hb5, m, xs, hm2, hown, HI.out⟩
            case measure => simp only [intOf]; omega
    · obtain rfl : k = l.n := by omega
      obtain ⟨d0, d1, d2, df, dl⟩ := bl
      have HE := Below.step HW.out hbel
      have HE : Hid (Below w.heap.size w wr) := HE
      clear hpt br bp bq bs
      go_wp2_with fail
      go_ret
      exact ⟨rfl, HE.out⟩
end Go.Proofs.Qxb6620807a
