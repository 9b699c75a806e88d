import Derived.Test.Qxb6620807aJoinD
import Derived.Deep.CutBlock
namespace Go.Proofs.Qxb6620807a
open Go.RowKit
set_option linter.unusedVariables false

theorem own_dr {w wy : World} {q : Nat} (hy : wy = w.drewN q) {B : Nat} {e : TypeId} {z : Nat} {v : Value} {n : Nat} {xs : List Value} (h : w.ownsRow B e z v n xs) : wy.ownsRow B e z v n xs := by subst hy; exact h
theorem below_dr {w wy : World} {q : Nat} (hy : wy = w.drewN q) {B : Nat} {w1 : World} (h : Below B w1 w) : Below B w1 wy := by subst hy; exact below_drewN h q
theorem grown_on' {w1 wr w' : World} {g : Nat} {o : Obj} {B : Nat} (hB : w1.heap.size = B) (h : Below w1.heap.size w1 wr) (hg : B ≤ g) (k : ((wr.drew).alloc o).grownBy w' (some g)) : Below w1.heap.size w1 w' :=
  ((Below.drew h).alloc h.size o).grown k (by rw [Go.Deep.nblk_alloc]; exact Nat.le_succ_of_le h.size) (fun x hx => by cases hx; omega)
theorem rowIn_of_from {b g : Nat} {w : World} {n : Nat} {o : Nat} {f : Nat → Value} (h : RowFrom b w (some ⟨b, o, none⟩) n f) (hg : g < b) : RowIn b g w (some ⟨b, o, none⟩) n f := by
  by_cases hn : n = 0
  · subst hn; exact RowIn.nil (by omega) _ _ _
  · obtain ⟨b', off, h0, h1, h2⟩ := h
    have e := h1 (by omega)
    simp only [Option.some.injEq, Addr.mk.injEq] at e
    obtain ⟨rfl, rfl, _⟩ := e
    exact ⟨o, by omega, fun _ => rfl, h2⟩
theorem Trip.only {w w' : World} {g g' : Nat} {x y z : Value} (h : Trip w g' x y z) (k : Only g w w') (hg : g' ≠ g) : Trip w' g' x y z := by
  have hb := k.block g' hg
  refine ⟨?_, ?_, ?_, fun j => ?_, by rw [k.size]; exact h.lt⟩
  · rw [World.cell?_of_block (w := w) (a := ⟨g', 0, none⟩) hb]; exact h.c0
  · rw [World.cell?_of_block (w := w) (a := ⟨g', 1, none⟩) hb]; exact h.c1
  · rw [World.cell?_of_block (w := w) (a := ⟨g', 2, none⟩) hb]; exact h.c2
  · rw [World.frozen?_of_block (w := w) (a := ⟨g', j, none⟩) hb]; exact h.fr j
theorem loose_of {ux uy : Int} {P Q Q0 Z : List Int} (hP : RunOK ux P) (hQ : RunOK uy Q) (hz : Asc Z) (hm : ∀ x, x ∈ Z ↔ x ∈ P ∨ x ∈ Q0) (hs : ∀ x ∈ Q0, x ∈ Q) (hg : ∀ x ∈ Q0, ux < x) : Loose ux Z := by
  refine ⟨hP.up0, hP.upM, hz, fun x hx => ?_, fun x hx => ?_⟩
  · rcases (hm x).1 hx with k | k
    · have := hP.lo x k; omega
    · exact hg x k
  · rcases (hm x).1 hx with k | k
    · exact hP.hi x k
    · exact hQ.hi x (hs x k)
theorem inR_join {ux uy : Int} {P Q Q0 Z : List Int} (hP : RunOK ux P) (hQ : RunOK uy Q) (hle : uy ≤ ux) (hm : ∀ x, x ∈ Z ↔ x ∈ P ∨ x ∈ Q0) (hs : ∀ x ∈ Q0, x ∈ Q) (hc : ∀ x ∈ Q, x ∈ Q0 ∨ x ≤ ux) (x : Int) : inR ux Z x ↔ inR ux P x ∨ inR uy Q x := by
  unfold inR
  constructor
  · rintro (k | k)
    · exact Or.inl (Or.inl k)
    · rcases (hm x).1 k with q | q
      · exact Or.inl (Or.inr q)
      · exact Or.inr (Or.inr (hs x q))
  · rintro ((k | k) | (k | k))
    · exact Or.inl k
    · exact Or.inr ((hm x).2 (Or.inl k))
    · exact Or.inl ⟨k.1, by omega⟩
    · rcases hc x k with q | q
      · exact Or.inr ((hm x).2 (Or.inr q))
      · have h1 := hQ.lo x k
        have h2 := hQ.up0
        exact Or.inl ⟨by omega, q⟩
/-- The row behind [1:]. -/
theorem row_if {w : World} {b o c n : Nat} {f : Nat → Value} (h : RowAt w (some ⟨b, o + 1, none⟩) n f) (hn : n + 1 ≤ c) : RowAt w (if c = 1 then some ⟨b, o, none⟩ else some ⟨b, o + 1, none⟩) n f := by
  split
  · obtain rfl : n = 0 := by omega
    exact RowAt.nil _ _ _
  · exact h

set_option maxRecDepth 100000 in
set_option maxHeartbeats 8000000 in
theorem joinR_f (s t : ByteArray) (u v : Int) (a b : Option Addr) (c d : Nat) (X Y : List Int) (w : World) (hst : s.toList = t.toList) (hx : RunAt w u a c X) (hy : RunAt w v b d Y) :
    Calls Try.prog 32 #[.agg #[.string s, .int .u64 u, .slice a X.length c], .agg #[.string t, .int .u64 v, .slice b Y.length d]] w (fun e w' => Joined s.toList u v X Y w w' e) := by
  go_enter Try.func32, Try.ntmps32
  go_upto_if 12 with fail
  go_cut [13] (fun i wc => ∃ (sx sy : ByteArray) (ux uy : Int) (ax ay : Option Addr) (cx cy : Nat) (P Q : List Int), wc = W3 w sx ux ax P.length cx sy uy ay Q.length cy ∧ sx.toList = s.toList ∧ uy ≤ ux ∧ RunAt w ux ax cx P ∧ RunAt w uy ay cy Q ∧ (∀ x, inR ux P x ∨ inR uy Q x ↔ inR u X x ∨ inR v Y x) ∧ P.length + Q.length = X.length + Y.length)
  case first =>
    by_cases hlt : u < v
    · go_wp2_with fail
      go_meet
      case rel => exact ⟨t, s, v, u, b, a, d, c, Y, X, rfl, hst.symm, by omega, hy, hx, fun x => Or.comm, Nat.add_comm _ _⟩
    · go_wp2_with fail
      go_meet
      case rel => exact ⟨s, t, u, v, a, b, c, d, X, Y, rfl, rfl, by omega, hx, hy, fun x => Iff.rfl, rfl⟩
  case rest =>
    obtain ⟨sx, sy, ux, uy, ax, ay, cx, cy, P, Q, hwc, hsx, hle, hP, hQ, hsame, hlen⟩ := hcut
    obtain ⟨w1, rfl⟩ : ∃ x, x = wc := ⟨_, rfl⟩
    have e1 : w1.heap.size = w.heap.size + 3 := by rw [hwc, W3_size]
    have B1 : Below w.heap.size w w1 := by rw [hwc]; exact W3_below ..
    have TT := W3_trips w sx ux ax P.length cx sy uy ay Q.length cy
    rw [← hwc] at TT
    obtain ⟨T0, T1, T2⟩ := TT
    obtain ⟨i41, hi41, hz41, hs41, hb41⟩ := info_parts Try.info41
    have lP := hP.len
    have lQ := hQ.len
    obtain ⟨w2, mk2, own2, gr2⟩ := run_make_own (P := Try.prog) w1 w1.heap.size 23 41 i41 _ 1 Try.underlying23 hi41 hz41 hs41 .i64 .i64 (P.length + Q.length) (by rw [hb41]; omega) (by unfold maxLen; omega) (Nat.le_refl _)
    have B2 : Below w1.heap.size w1 w2 := (Below.refl _ _).grown gr2 (Nat.le_refl _) (fun k hk => by cases hk)
    have U0 := T0.on B2 T0.lt
    have U1 := T1.on B2 T1.lt
    have U2 := T2.on B2 T2.lt
    have HTA : Hid (Trip w1 w.heap.size (.string sx) (.int .u64 ux) (.slice ax P.length cx)) := T0
    have HB1W : Hid (Below w.heap.size w w1) := B1
    have T2W : Hid (Trip w1 (w.heap.size + 2) (.string { data := #[] }) (.int .u64 0) (.slice none 0 0)) := T2
    clear T2
    obtain ⟨x0, x1, x2, xf, xl⟩ := T0
    obtain ⟨y0, y1, y2, yf, yl⟩ := T1
    clear hwc
    have HLN : Hid (P.length + Q.length = X.length + Y.length) := hlen
    clear hlen
    have HPP := hP.now B1
    have HQQ := hQ.now B1
    have HB2 : Hid (Below w1.heap.size w1 w2) := B2
    have e2 : Hid (w1.heap.size = w.heap.size + 3) := e1
    rw [e1] at own2 B2
    have s2 : w.heap.size + 3 ≤ w2.heap.size := by have := B2.size; omega
    have B3 := Below.step B1 (show Below w1.heap.size w1 w2 by rw [e2.out]; exact B2)
    have HB3 : Hid (Below w.heap.size w w2) := B3
    have z0 := U0.c1
    have z1 := U0.c2
    have z2 := U1.c2
    have HU0 : Hid (Trip w2 w.heap.size (.string sx) (.int .u64 ux) (.slice ax P.length cx)) := U0
    have HU2 : Hid (Trip w2 (w.heap.size + 2) (.string { data := #[] }) (.int .u64 0) (.slice none 0 0)) := U2
    have HP1 : Hid (RunAt w1 ux ax cx P) := HPP
    have HQ1 : Hid (RunAt w1 uy ay cy Q) := HQQ
    clear HPP HQQ
    have HPQ : Hid (P.length ≤ 16777216 ∧ Q.length ≤ 16777216) := ⟨lP, lQ⟩
    clear U0 U1 U2 hP hQ B1 e1 B3 gr2
    simp only [Int.natCast_add] at mk2
    go_wp2_with fail
    clear mk2 x0 x1 x2 xf y0 y1 y2 yf
    go_quiet (fail)
    clear z2 z1
    go_upto_block 0 with fail
    go_cut [7] (fun vb wc => ∃ Q' b' d', vb = .slice b' Q'.length d' ∧ (∃ q, wc = w2.drewN q) ∧ Q'.length ≤ d' ∧ d' ≤ 1099511627776 ∧ Q'.length ≤ Q.length ∧ RowAt w1 b' Q'.length (fun j => .int .u64 (ix Q' j)) ∧ Asc Q' ∧ (∀ x ∈ Q', x ∈ Q) ∧ (∀ x ∈ Q, x ∈ Q' ∨ x ≤ ux) ∧ (∀ x ∈ Q', ux < x))
    case rest =>
      obtain ⟨Q0, b0, d0, rfl, ⟨qq, rfl⟩, hd1, hd2, hql, hrow, hasc, hsub, hsup, hgt⟩ := hcut
      have HM : Hid (Merging P Q0 [] P Q0) := Merging.start HP1.out.ok.asc hasc
      have HG : Hid ((∀ x ∈ Q0, x ∈ Q) ∧ (∀ x ∈ Q, x ∈ Q0 ∨ x ≤ ux) ∧ ∀ x ∈ Q0, ux < x) := ⟨hsub, hsup, hgt⟩
      have hcap : P.length + Q0.length ≤ P.length + Q.length := by omega
      clear hsub hsup hgt hasc
      have HR0 : Hid (RowAt w1 b0 Q0.length (fun j => .int .u64 (ix Q0 j))) := hrow
      clear hrow
      generalize hcc : P.length + Q.length = cc at *
      have hcc2 : cc ≤ 33554432 := by have := HPQ.out; omega
      have HCC : Hid (P.length + Q.length = cc) := hcc
      have hsz2 := s2
      clear hcc z0
      go_wp2_with fail
      go_loopw [5, 6, 7] (fun va vb vc wr => ∃ Z A B a' c' b' d', va = .slice (some ⟨w.heap.size + 3, 0, none⟩) Z.length cc ∧ vb = .slice a' A.length c' ∧ vc = .slice b' B.length d' ∧
          wr.ownsRow (w.heap.size + 3) 41 1 (.slice (some ⟨w.heap.size + 3, 0, none⟩) Z.length cc) Z.length (Z.map (Value.int .u64)) ∧ Below w1.heap.size w1 wr ∧ RowAt w1 a' A.length (fun j => .int .u64 (ix A j)) ∧ RowAt w1 b' B.length (fun j => .int .u64 (ix B j)) ∧
          A.length ≤ c' ∧ c' ≤ 1099511627776 ∧ B.length ≤ d' ∧ d' ≤ 1099511627776 ∧ Z.length + A.length + B.length ≤ cc ∧ Merging P Q0 Z A B) (fun _ vb vc _ => lenV vb + lenV vc)
      case atStart => exact ⟨[], P, Q0, ax, cx, b0, d0, by rw [e2.out]; rfl, rfl, rfl, by have k : (w2.drewN qq).ownsRow (w.heap.size + 3) 41 1 (.slice (some ⟨w.heap.size + 3, 0, none⟩) 0 cc) 0 [] := own2; simpa using k, below_drewN HB2.out _, HP1.out.row, HR0.out, HP1.out.cap, HP1.out.cap2, hd1, hd2, by simpa using hcap, HM.out⟩
      case round =>
        clear own2
        obtain ⟨Z, A, B, a', c', b', d', rfl, rfl, rfl, hown, hbel, hra, hrb, hc1, hc2, hd1, hd2, hsum, hmg⟩ := hrel
        have HMG : Hid (Merging P Q0 Z A B) := hmg
        clear hmg
        cases A with
        | nil =>
          cases B with
          | nil =>
            have HAL : Hid (Asc Z ∧ ∀ x, x ∈ Z ↔ x ∈ P ∨ x ∈ Q0) := ⟨HMG.out.z, fun x => by simpa using HMG.out.same x⟩
            have HRZ : Hid (RowFrom (w.heap.size + 3) wr (some ⟨w.heap.size + 3, 0, none⟩) Z.length (fun j => .int .u64 (ix Z j))) := rowFrom_of_own hown (fun j hj => by rw [List.getElem?_map, ix_some hj]; rfl)
            have hz1 : Z.length ≤ cc := by simp only [List.length_nil] at hsum; omega
            have HT0 := HTA.out.on hbel HTA.out.lt
            have HT2 := T2W.out.on hbel T2W.out.lt
            simp only [List.length_nil] at hc1 hd1 hsum ⊢
            have HLo : Hid (Loose ux Z) := loose_of HP1.out.ok HQ1.out.ok HAL.out.1 HAL.out.2 HG.out.1 HG.out.2.2
            have HIN : Hid (∀ x, inR ux Z x ↔ inR u X x ∨ inR v Y x) := fun x => (inR_join HP1.out.ok HQ1.out.ok hle HAL.out.2 HG.out.1 HG.out.2.1 x).trans (hsame x)
            have HW : Hid (Below w.heap.size w wr) := Below.step HB1W.out hbel
            have hLE : Hid (Z.length ≤ X.length + Y.length) := by unfold Hid; rw [← HLN.out]; exact hz1
            have HT0' : Hid (Trip wr w.heap.size (.string sx) (.int .u64 ux) (.slice ax P.length cx)) := HT0
            have HT2' : Hid (Trip wr (w.heap.size + 1 + 1) (.string { data := #[] }) (.int .u64 0) (.slice none 0 0)) := HT2
            have g2 := HT0.c2
            have gf := HT0.fr 2
            clear HT0 HT2 hown hbel hra hrb
            go_wp2_with fail
            have AB : Absorb (w.heap.size + 3) w.heap.size sx ux Z (wr.setCell ⟨w.heap.size, 2, none⟩ (.slice (some ⟨w.heap.size + 3, 0, none⟩) Z.length cc)) (wr.setCell ⟨w.heap.size, 2, none⟩ (.slice (some ⟨w.heap.size + 3, 0, none⟩) Z.length cc)) ux Z (some ⟨w.heap.size + 3, 0, none⟩) cc :=
              ⟨HLo.out, fun x => Iff.rfl, Nat.le_refl _, hz1, by omega, HT0'.out.set2 _, (rowIn_of_from HRZ.out (by omega)).set 2 _, Only.refl _ _⟩
            refine (absorb_f (w.heap.size + 3) w.heap.size sx ux _ _ Z _ (by omega) AB).mono ?_
            rintro e w4 ⟨vv, u4, Z4, a4, c4, rfl, AB4, hok4⟩
            have T4 := AB4.trip
            have T5 := (HT2'.out.other (p := ⟨w.heap.size, 2, none⟩) (by simp only; omega) (.slice (some ⟨w.heap.size + 3, 0, none⟩) Z.length cc)).only AB4.only (by omega)
            have HF : Hid (Joined s.toList u v X Y w (((w4.setCell ⟨w.heap.size + 1 + 1, 0, none⟩ (.string sx)).setCell ⟨w.heap.size + 1 + 1, 1, none⟩ (.int .u64 u4)).setCell ⟨w.heap.size + 1 + 1, 2, none⟩ (.slice a4 Z4.length c4)) (.returned (.agg #[.string sx, .int .u64 u4, .slice a4 Z4.length c4]))) := by
              refine ⟨sx, u4, a4, c4, Z4, rfl, hsx, hok4, fun x => (AB4.same x).trans (HIN.out x), ?_, AB4.cap, AB4.cap2, Nat.le_trans AB4.le hLE.out, ?_⟩
              · obtain ⟨off, h0, h1, h2⟩ := AB4.row
                have RF : RowFrom (w.heap.size + 3) w4 a4 Z4.length (fun j => .int .u64 (ix Z4 j)) := ⟨_, off, Nat.le_refl _, h1, h2⟩
                exact (((RF.set (p := ⟨w.heap.size + 1 + 1, 0, none⟩) (by simp only; omega) _).set (p := ⟨w.heap.size + 1 + 1, 1, none⟩) (by simp only; omega) _).set (p := ⟨w.heap.size + 1 + 1, 2, none⟩) (by simp only; omega) _).mono (by omega)
              · have b1 : Below w.heap.size w (wr.setCell ⟨w.heap.size, 2, none⟩ (.slice (some ⟨w.heap.size + 3, 0, none⟩) Z.length cc)) := HW.out.setCell (Nat.le_refl _) _
                have b2 := b1.trans AB4.only.below
                exact ((b2.setCell (p := ⟨w.heap.size + 1 + 1, 0, none⟩) (by simp only; omega) _).setCell (p := ⟨w.heap.size + 1 + 1, 1, none⟩) (by simp only; omega) _).setCell (p := ⟨w.heap.size + 1 + 1, 2, none⟩) (by simp only; omega) _
            generalize Z4.length = l4 at *
            have T6 := ((T5.set0 (.string sx)).set1 (.int .u64 u4)).set2 (.slice a4 l4 c4)
            have HT6 : Hid (Trip (((w4.setCell ⟨w.heap.size + 1 + 1, 0, none⟩ (.string sx)).setCell ⟨w.heap.size + 1 + 1, 1, none⟩ (.int .u64 u4)).setCell ⟨w.heap.size + 1 + 1, 2, none⟩ (.slice a4 l4 c4)) (w.heap.size + 1 + 1) (.string sx) (.int .u64 u4) (.slice a4 l4 c4)) := T6
            obtain ⟨t0, t1, t2, tf, tl⟩ := T4
            obtain ⟨v0, v1, v2, vf, vl⟩ := T5
            have vf0 := vf 0
            have vf1 := vf 1
            have vf2 := vf 2
            clear AB AB4 T6 g2 gf
            go_wp2_with fail
            refine bodyPost_ret (v := .agg #[.string sx, .int .u64 u4, .slice a4 l4 c4]) ?_ rfl ?_
            · have T := HT6.out
              simp [results, Try.results32, go_sem, T.c0, T.c1, T.c2, Result.andThen]
            · exact HF.out
          | cons y B =>
            have HM2 : Hid (Merging P Q0 (Z ++ [y]) [] B) := HMG.out.right (by simp)
            have HRA : Hid (RowAt w1 a' ([] : List Int).length (fun j => .int .u64 (ix [] j))) := hra
            clear hra
            obtain ⟨bb, ob, eb, rb⟩ := hrb
            obtain rfl := eb (by simp)
            have lb := World.block_lt_of_cell? _ _ (rb 0 (by simp))
            have q1 : wr.cell? ⟨bb, ob, none⟩ = some (.int .u64 y) := by rw [hbel.cell (p := ⟨bb, ob, none⟩) lb]; simpa [ix] using rb 0 (by simp)
            have HTB : Hid (RowAt w1 (some ⟨bb, ob + 1, none⟩) B.length (fun j => .int .u64 (ix B j))) := row_tail rb
            have HRB : Hid (RowAt w1 (some ⟨bb, ob, none⟩) (y :: B).length (fun j => .int .u64 (ix (y :: B) j))) := ⟨bb, ob, fun _ => rfl, rb⟩
            clear rb
            simp only [List.length_cons, List.length_nil] at hc1 hd1 hsum ⊢
            generalize hNb : B.length = NB at *
            have HNB : Hid (B.length = NB) := hNb
            clear hNb
            have hNB : (1 : Int) ≤ (NB : Int) + 1 := by omega
            have hNB0 : ((NB : Int) + 1 == 0) = false := by simp <;> omega
            have hNB1 : decide ((0 : Int) < (NB : Int) + 1) = true := by simp <;> omega
            go_wp2_with fail
            go_quiet (fail)
            obtain ⟨wx0, hwx⟩ : ∃ z, z = wr.drewN nq := ⟨_, rfl⟩
            rw [← hwx]
            replace hown := own_dr hwx hown
            replace hbel := below_dr hwx hbel
            replace q1 := cell_dr hwx q1
            clear hwx
            go_wp2_with fail
            go_quiet (fail)
            obtain ⟨wx1, hwx⟩ : ∃ z, z = wx0.drewN nq := ⟨_, rfl⟩
            rw [← hwx]
            replace hown := own_dr hwx hown
            replace hbel := below_dr hwx hbel
            replace q1 := cell_dr hwx q1
            clear hwx
            have hsz := hbel.size
            go_wp2_with fail
            go_region_law (refine step_append_spare rfl _ _ 23 rfl (w.heap.size + 3) 41 i41 1 Try.underlying23 hi41 hs41 (w.heap.size + 3) Z.length cc (Z.map (Value.int .u64)) rfl (World.ownsRow.alloc hown _) ⟨wx1.heap.size, 0, none⟩ 1 1 [.int .u64 y] rfl rfl (new1 _ _ _) (by simp [Value.oneCell']) (by omega) ?_; intro w' hown' hgrow)
            all_goals
              have hown2 := own_snoc hown'
              have hbel2 := grown_on' e2.out hbel (Nat.le_of_eq rfl) hgrow
              clear hown hown' hgrow hbel
              refine ⟨?_, ?_⟩
              · repeat apply Exists.intro
                refine ⟨?_, rfl⟩
                exact ⟨Z ++ [y], [], B, a', c', (if d' = 1 then some ⟨bb, ob, none⟩ else some ⟨bb, ob + 1, none⟩), d' - 1, by simp, rfl, by rw [HNB.out], hown2, hbel2, HRA.out, by rw [HNB.out]; exact row_if HTB.out (by omega), Nat.zero_le _, by omega, by rw [HNB.out]; omega, by omega, by rw [List.length_append, List.length_singleton, List.length_nil, HNB.out]; omega, HM2.out⟩
              · show 0 + NB < 0 + (NB + 1); omega
        | cons x A =>
          cases B with
          | nil =>
            have HM2 : Hid (Merging P Q0 (Z ++ [x]) A []) := HMG.out.left (by simp)
            have HRB : Hid (RowAt w1 b' ([] : List Int).length (fun j => .int .u64 (ix [] j))) := hrb
            clear hrb
            obtain ⟨ba, oa, ea, ra⟩ := hra
            obtain rfl := ea (by simp)
            have la := World.block_lt_of_cell? _ _ (ra 0 (by simp))
            have q0 : wr.cell? ⟨ba, oa, none⟩ = some (.int .u64 x) := by rw [hbel.cell (p := ⟨ba, oa, none⟩) la]; simpa [ix] using ra 0 (by simp)
            have HT : Hid (RowAt w1 (some ⟨ba, oa + 1, none⟩) A.length (fun j => .int .u64 (ix A j))) := row_tail ra
            have HRA : Hid (RowAt w1 (some ⟨ba, oa, none⟩) (x :: A).length (fun j => .int .u64 (ix (x :: A) j))) := ⟨ba, oa, fun _ => rfl, ra⟩
            clear ra
            simp only [List.length_cons, List.length_nil] at hc1 hd1 hsum ⊢
            generalize hN : A.length = NA at *
            have HN : Hid (A.length = NA) := hN
            clear hN
            have hNA : (1 : Int) ≤ (NA : Int) + 1 := by omega
            have hNA0 : ((NA : Int) + 1 == 0) = false := by simp <;> omega
            have hNA1 : decide ((0 : Int) < (NA : Int) + 1) = true := by simp <;> omega
            go_wp2_with fail
            go_quiet (fail)
            obtain ⟨wx0, hwx⟩ : ∃ z, z = wr.drewN nq := ⟨_, rfl⟩
            rw [← hwx]
            replace hown := own_dr hwx hown
            replace hbel := below_dr hwx hbel
            replace q0 := cell_dr hwx q0
            clear hwx
            have hsz := hbel.size
            go_wp2_with fail
            go_region_law (refine step_append_spare rfl _ _ 23 rfl (w.heap.size + 3) 41 i41 1 Try.underlying23 hi41 hs41 (w.heap.size + 3) Z.length cc (Z.map (Value.int .u64)) rfl (World.ownsRow.alloc hown _) ⟨wx0.heap.size, 0, none⟩ 1 1 [.int .u64 x] rfl rfl (new1 _ _ _) (by simp [Value.oneCell']) (by omega) ?_; intro w' hown' hgrow)
            all_goals
              have hown2 := own_snoc hown'
              have hbel2 := grown_on' e2.out hbel (Nat.le_of_eq rfl) hgrow
              clear hown hown' hgrow hbel
              refine ⟨?_, ?_⟩
              · repeat apply Exists.intro
                refine ⟨?_, rfl⟩
                exact ⟨Z ++ [x], A, [], (if c' = 1 then some ⟨ba, oa, none⟩ else some ⟨ba, oa + 1, none⟩), c' - 1, b', d', by simp, by rw [HN.out], rfl, hown2, hbel2, by rw [HN.out]; exact row_if HT.out (by omega), HRB.out, by rw [HN.out]; omega, by omega, Nat.zero_le _, by omega, by rw [List.length_append, List.length_singleton, HN.out, List.length_nil]; omega, HM2.out⟩
              · show NA + 0 < (NA + 1) + 0; omega
          | cons y B =>
            obtain ⟨ba, oa, ea, ra⟩ := hra
            obtain rfl := ea (by simp)
            have la := World.block_lt_of_cell? _ _ (ra 0 (by simp))
            have q0 : wr.cell? ⟨ba, oa, none⟩ = some (.int .u64 x) := by rw [hbel.cell (p := ⟨ba, oa, none⟩) la]; simpa [ix] using ra 0 (by simp)
            have HT : Hid (RowAt w1 (some ⟨ba, oa + 1, none⟩) A.length (fun j => .int .u64 (ix A j))) := row_tail ra
            have HRA : Hid (RowAt w1 (some ⟨ba, oa, none⟩) (x :: A).length (fun j => .int .u64 (ix (x :: A) j))) := ⟨ba, oa, fun _ => rfl, ra⟩
            clear ra
            obtain ⟨bb, ob, eb, rb⟩ := hrb
            obtain rfl := eb (by simp)
            have lb := World.block_lt_of_cell? _ _ (rb 0 (by simp))
            have q1 : wr.cell? ⟨bb, ob, none⟩ = some (.int .u64 y) := by rw [hbel.cell (p := ⟨bb, ob, none⟩) lb]; simpa [ix] using rb 0 (by simp)
            have HTB : Hid (RowAt w1 (some ⟨bb, ob + 1, none⟩) B.length (fun j => .int .u64 (ix B j))) := row_tail rb
            have HRB : Hid (RowAt w1 (some ⟨bb, ob, none⟩) (y :: B).length (fun j => .int .u64 (ix (y :: B) j))) := ⟨bb, ob, fun _ => rfl, rb⟩
            clear rb
            rcases Int.lt_trichotomy x y with hxy | hxy | hxy
            · have HM2 : Hid (Merging P Q0 (Z ++ [x]) A (y :: B)) := HMG.out.left (HMG.out.cons_lt hxy)
              have hd : decide (x < y) = true := by simp [hxy]
              simp only [List.length_cons] at hc1 hd1 hsum ⊢
              generalize hN : A.length = NA at *
              have HN : Hid (A.length = NA) := hN
              clear hN
              have hNA : (1 : Int) ≤ (NA : Int) + 1 := by omega
              have hNA0 : ((NA : Int) + 1 == 0) = false := by simp <;> omega
              have hNA1 : decide ((0 : Int) < (NA : Int) + 1) = true := by simp <;> omega
              generalize hNb : B.length = NB at *
              have HNB : Hid (B.length = NB) := hNb
              clear hNb
              have hNB : (1 : Int) ≤ (NB : Int) + 1 := by omega
              have hNB0 : ((NB : Int) + 1 == 0) = false := by simp <;> omega
              have hNB1 : decide ((0 : Int) < (NB : Int) + 1) = true := by simp <;> omega
              go_wp2_with fail
              go_quiet (fail)
              obtain ⟨wx0, hwx⟩ : ∃ z, z = wr.drewN nq := ⟨_, rfl⟩
              rw [← hwx]
              replace hown := own_dr hwx hown
              replace hbel := below_dr hwx hbel
              replace q0 := cell_dr hwx q0
              replace q1 := cell_dr hwx q1
              clear hwx
              have hsz := hbel.size
              go_wp2_with fail
              go_region_law (refine step_append_spare rfl _ _ 23 rfl (w.heap.size + 3) 41 i41 1 Try.underlying23 hi41 hs41 (w.heap.size + 3) Z.length cc (Z.map (Value.int .u64)) rfl (World.ownsRow.alloc hown _) ⟨wx0.heap.size, 0, none⟩ 1 1 [.int .u64 x] rfl rfl (new1 _ _ _) (by simp [Value.oneCell']) (by omega) ?_; intro w' hown' hgrow)
              all_goals
                have hown2 := own_snoc hown'
                have hbel2 := grown_on' e2.out hbel (Nat.le_of_eq rfl) hgrow
                clear hown hown' hgrow hbel
                refine ⟨?_, ?_⟩
                · repeat apply Exists.intro
                  refine ⟨?_, rfl⟩
                  exact ⟨Z ++ [x], A, y :: B, (if c' = 1 then some ⟨ba, oa, none⟩ else some ⟨ba, oa + 1, none⟩), c' - 1, (some ⟨bb, ob, none⟩), d', by simp, by rw [HN.out], by rw [List.length_cons, HNB.out], hown2, hbel2, by rw [HN.out]; exact row_if HT.out (by omega), HRB.out, by rw [HN.out]; omega, by omega, by rw [List.length_cons, HNB.out]; omega, by omega, by rw [List.length_append, List.length_singleton, HN.out, List.length_cons, HNB.out]; omega, HM2.out⟩
                · show NA + (NB + 1) < (NA + 1) + (NB + 1); omega
            · subst hxy
              have HM2 : Hid (Merging P Q0 (Z ++ [x]) A B) := HMG.out.both
              have hd : decide (x < x) = false := by simp
              simp only [List.length_cons] at hc1 hd1 hsum ⊢
              generalize hN : A.length = NA at *
              have HN : Hid (A.length = NA) := hN
              clear hN
              have hNA : (1 : Int) ≤ (NA : Int) + 1 := by omega
              have hNA0 : ((NA : Int) + 1 == 0) = false := by simp <;> omega
              have hNA1 : decide ((0 : Int) < (NA : Int) + 1) = true := by simp <;> omega
              generalize hNb : B.length = NB at *
              have HNB : Hid (B.length = NB) := hNb
              clear hNb
              have hNB : (1 : Int) ≤ (NB : Int) + 1 := by omega
              have hNB0 : ((NB : Int) + 1 == 0) = false := by simp <;> omega
              have hNB1 : decide ((0 : Int) < (NB : Int) + 1) = true := by simp <;> omega
              go_wp2_with fail
              go_quiet (fail)
              obtain ⟨wx0, hwx⟩ : ∃ z, z = wr.drewN nq := ⟨_, rfl⟩
              rw [← hwx]
              replace hown := own_dr hwx hown
              replace hbel := below_dr hwx hbel
              replace q0 := cell_dr hwx q0
              replace q1 := cell_dr hwx q1
              clear hwx
              go_wp2_with fail
              go_quiet (fail)
              obtain ⟨wx1, hwx⟩ : ∃ z, z = wx0.drewN nq := ⟨_, rfl⟩
              rw [← hwx]
              replace hown := own_dr hwx hown
              replace hbel := below_dr hwx hbel
              replace q0 := cell_dr hwx q0
              replace q1 := cell_dr hwx q1
              clear hwx
              have hsz := hbel.size
              go_wp2_with fail
              go_region_law (refine step_append_spare rfl _ _ 23 rfl (w.heap.size + 3) 41 i41 1 Try.underlying23 hi41 hs41 (w.heap.size + 3) Z.length cc (Z.map (Value.int .u64)) rfl (World.ownsRow.alloc hown _) ⟨wx1.heap.size, 0, none⟩ 1 1 [.int .u64 x] rfl rfl (new1 _ _ _) (by simp [Value.oneCell']) (by omega) ?_; intro w' hown' hgrow)
              all_goals
                have hown2 := own_snoc hown'
                have hbel2 := grown_on' e2.out hbel (Nat.le_of_eq rfl) hgrow
                clear hown hown' hgrow hbel
                refine ⟨?_, ?_⟩
                · repeat apply Exists.intro
                  refine ⟨?_, rfl⟩
                  exact ⟨Z ++ [x], A, B, (if c' = 1 then some ⟨ba, oa, none⟩ else some ⟨ba, oa + 1, none⟩), c' - 1, (if d' = 1 then some ⟨bb, ob, none⟩ else some ⟨bb, ob + 1, none⟩), d' - 1, by simp, by rw [HN.out], by rw [HNB.out], hown2, hbel2, by rw [HN.out]; exact row_if HT.out (by omega), by rw [HNB.out]; exact row_if HTB.out (by omega), by rw [HN.out]; omega, by omega, by rw [HNB.out]; omega, by omega, by rw [List.length_append, List.length_singleton, HN.out, HNB.out]; omega, HM2.out⟩
                · show NA + NB < (NA + 1) + (NB + 1); omega
            · have HM2 : Hid (Merging P Q0 (Z ++ [y]) (x :: A) B) := HMG.out.right (HMG.out.flip.cons_lt hxy)
              have hd : decide (x < y) = false := by simp <;> omega
              have hd2 : decide (y < x) = true := by simp [hxy]
              simp only [List.length_cons] at hc1 hd1 hsum ⊢
              generalize hN : A.length = NA at *
              have HN : Hid (A.length = NA) := hN
              clear hN
              have hNA : (1 : Int) ≤ (NA : Int) + 1 := by omega
              have hNA0 : ((NA : Int) + 1 == 0) = false := by simp <;> omega
              have hNA1 : decide ((0 : Int) < (NA : Int) + 1) = true := by simp <;> omega
              generalize hNb : B.length = NB at *
              have HNB : Hid (B.length = NB) := hNb
              clear hNb
              have hNB : (1 : Int) ≤ (NB : Int) + 1 := by omega
              have hNB0 : ((NB : Int) + 1 == 0) = false := by simp <;> omega
              have hNB1 : decide ((0 : Int) < (NB : Int) + 1) = true := by simp <;> omega
              go_wp2_with fail
              go_quiet (fail)
              obtain ⟨wx0, hwx⟩ : ∃ z, z = wr.drewN nq := ⟨_, rfl⟩
              rw [← hwx]
              replace hown := own_dr hwx hown
              replace hbel := below_dr hwx hbel
              replace q0 := cell_dr hwx q0
              replace q1 := cell_dr hwx q1
              clear hwx
              go_wp2_with fail
              go_quiet (fail)
              obtain ⟨wx1, hwx⟩ : ∃ z, z = wx0.drewN nq := ⟨_, rfl⟩
              rw [← hwx]
              replace hown := own_dr hwx hown
              replace hbel := below_dr hwx hbel
              replace q0 := cell_dr hwx q0
              replace q1 := cell_dr hwx q1
              clear hwx
              have hsz := hbel.size
              go_wp2_with fail
              go_region_law (refine step_append_spare rfl _ _ 23 rfl (w.heap.size + 3) 41 i41 1 Try.underlying23 hi41 hs41 (w.heap.size + 3) Z.length cc (Z.map (Value.int .u64)) rfl (World.ownsRow.alloc hown _) ⟨wx1.heap.size, 0, none⟩ 1 1 [.int .u64 y] rfl rfl (new1 _ _ _) (by simp [Value.oneCell']) (by omega) ?_; intro w' hown' hgrow)
              all_goals
                have hown2 := own_snoc hown'
                have hbel2 := grown_on' e2.out hbel (Nat.le_of_eq rfl) hgrow
                clear hown hown' hgrow hbel
                refine ⟨?_, ?_⟩
                · repeat apply Exists.intro
                  refine ⟨?_, rfl⟩
                  exact ⟨Z ++ [y], x :: A, B, (some ⟨ba, oa, none⟩), c', (if d' = 1 then some ⟨bb, ob, none⟩ else some ⟨bb, ob + 1, none⟩), d' - 1, by simp, by rw [List.length_cons, HN.out], by rw [HNB.out], hown2, hbel2, HRA.out, by rw [HNB.out]; exact row_if HTB.out (by omega), by rw [List.length_cons, HN.out]; omega, by omega, by rw [HNB.out]; omega, by omega, by rw [List.length_append, List.length_singleton, List.length_cons, HN.out, HNB.out]; omega, HM2.out⟩
                · show (NA + 1) + NB < (NA + 1) + (NB + 1); omega
    case first =>
     go_wp2_with fail
     go_loopw [7] (fun vb wr => ∃ Q' b' d', vb = .slice b' Q'.length d' ∧ (∃ q, wr = w2.drewN q) ∧ Q'.length ≤ d' ∧ d' ≤ 1099511627776 ∧ Q'.length ≤ Q.length ∧ RowAt w1 b' Q'.length (fun j => .int .u64 (ix Q' j)) ∧ Asc Q' ∧ (∀ x ∈ Q', x ∈ Q) ∧ (∀ x ∈ Q, x ∈ Q' ∨ x ≤ ux)) (fun vb _ => lenV vb)
     case atStart => exact ⟨Q, ay, cy, rfl, ⟨_, rfl⟩, HQ1.out.cap, HQ1.out.cap2, Nat.le_refl _, HQ1.out.row, HQ1.out.ok.asc, fun x hx => hx, fun x hx => Or.inl hx⟩
     case round =>
       obtain ⟨Q', b', d', rfl, ⟨q, rfl⟩, hd1, hd2, hql, hrow, hasc, hsub, hsup⟩ := hrel
       have HSub : Hid (∀ x ∈ Q', x ∈ Q) := hsub
       have HSup : Hid (∀ x ∈ Q, x ∈ Q' ∨ x ≤ ux) := hsup
       have HAsc : Hid (Asc Q') := hasc
       have HRow : Hid (RowAt w1 b' Q'.length (fun j => .int .u64 (ix Q' j))) := hrow
       clear hsub hsup hasc
       cases Q' with
       | nil =>
         have HE : Hid (∀ x ∈ ([] : List Int), ux < x) := by intro x hx; simp at hx
         simp only [List.length_nil] at HRow ⊢
         clear hrow
         go_wp2_with fail
         go_quiet (fail)
         go_wp2_with fail
         go_meet
         case rel => exact ⟨[], b', d', rfl, ⟨_, World.drewN_drewN ..⟩, hd1, hd2, hql, HRow.out, HAsc.out, HSub.out, HSup.out, HE.out⟩
       | cons y Q' =>
         by_cases hy : y ≤ ux
         · obtain ⟨b, off, ha, hc⟩ := hrow
           have hlt0 := World.block_lt_of_cell? _ _ (hc 0 (by simp))
           obtain rfl := ha (by simp)
           have q0 : w2.cell? ⟨b, off, none⟩ = some (.int .u64 y) := by rw [HB2.out.cell (p := ⟨b, off, none⟩) hlt0]; simpa [ix] using hc 0 (by simp)
           have HT : Hid (RowAt w1 (some ⟨b, off + 1, none⟩) Q'.length (fun j => .int .u64 (ix Q' j))) := by
             refine ⟨b, off + 1, fun _ => rfl, fun j hj => ?_⟩
             have := hc (j + 1) (by simp; omega)
             rw [show off + 1 + j = off + (j + 1) from by omega]
             simpa [ix] using this
           have HS1 : Hid (∀ x ∈ Q', x ∈ Q) := fun x hx => HSub.out x (by simp [hx])
           have HS2 : Hid (∀ x ∈ Q, x ∈ Q' ∨ x ≤ ux) := fun x hx => by
             rcases HSup.out x hx with k | k
             · rcases List.mem_cons.1 k with rfl | k
               · exact Or.inr hy
               · exact Or.inl k
             · exact Or.inr k
           have HA : Hid (Asc Q') := (List.pairwise_cons.1 HAsc.out).2
           simp only [List.length_cons] at hd1 hql ⊢
           generalize hN : Q'.length = N at *
           have HN : Hid (Q'.length = N) := hN
           clear hc hN HRow
           by_cases hc1 : d' = 1
           · subst hc1
             obtain rfl : N = 0 := by omega
             go_wp2_with fail
             go_quiet (fail)
             go_wp2_with fail
             go_roundw
             case rel => exact ⟨Q', _, 0, by rw [HN.out], ⟨_, rfl⟩, by rw [HN.out]; omega, by omega, by rw [HN.out]; omega, by rw [HN.out]; exact RowAt.nil _ _ _, HA.out, HS1.out, HS2.out⟩
             case measure => simp [lenV]
           · go_wp2_with fail
             go_quiet (fail)
             go_wp2_with fail
             go_roundw
             case rel => exact ⟨Q', _, d' - 1, by rw [HN.out], ⟨_, rfl⟩, by rw [HN.out]; omega, by omega, by rw [HN.out]; omega, by rw [HN.out]; exact HT.out, HA.out, HS1.out, HS2.out⟩
             case measure => simp [lenV]
         · have HE : Hid (∀ x ∈ y :: Q', ux < x) := by
             intro x hx
             rcases List.mem_cons.1 hx with rfl | k
             · omega
             · have := (List.pairwise_cons.1 HAsc.out).1 x k; omega
           obtain ⟨b, off, ha, hc⟩ := hrow
           have hlt0 := World.block_lt_of_cell? _ _ (hc 0 (by simp))
           obtain rfl := ha (by simp)
           have q0 : w2.cell? ⟨b, off, none⟩ = some (.int .u64 y) := by rw [HB2.out.cell (p := ⟨b, off, none⟩) hlt0]; simpa [ix] using hc 0 (by simp)
           have hy' : decide (y ≤ ux) = false := by simp [hy]
           have HN : Hid ((y :: Q').length = Q'.length + 1) := by simp [Hid]
           simp only [List.length_cons] at hd1 hql ⊢
           generalize hN' : Q'.length = N at *
           have HN' : Hid (Q'.length = N) := hN'
           clear hc hN'
           go_wp2_with fail
           go_quiet (fail)
           go_wp2_with fail
           go_meet
           case rel => exact ⟨y :: Q', _, d', by simp [HN'.out], ⟨_, World.drewN_drewN ..⟩, by simp [HN'.out]; omega, hd2, by simp [HN'.out]; omega, HRow.out, HAsc.out, HSub.out, HSup.out, HE.out⟩
end Go.Proofs.Qxb6620807a
