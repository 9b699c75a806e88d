import Derived.Test.Qxb6620807aCapL
import Derived.Test.Qxb6620807aSize19
import Derived.Deep.CutBlock
import Derived.Deep.RegionHeld
namespace Go.Proofs.Qxb6620807a
open Go.RowKit
set_option linter.unusedVariables false

def Trues5 (w w' : World) (e : Ending) : Prop := e = .returned (.bool true) ∧ Below w.heap.size w w'

set_option maxRecDepth 100000 in
set_option maxHeartbeats 8000000 in
theorem walk5 (HJ : CapCSpec) (a1 a2 a3 : Option Addr) (n n2 n3 c1 c2 c3 : Nat) (S : Nat → ByteArray) (U : Nat → Int) (A : Nat → Option Addr) (L C : Nat → Nat) (F : Nat → Nat → Int)
    (b1 b2 b3 : Option Addr) (m m2 m3 d1 d2 d3 : Nat) (S' : Nat → ByteArray) (U' : Nat → Int) (A' : Nat → Option Addr) (L' C' : Nat → Nat) (F' : Nat → Nat → Int) (w : World)
    (h : ArgC w a1 a2 a3 n n2 n3 S U A L C F) (h' : ArgC w b1 b2 b3 m m2 m3 S' U' A' L' C' F') :
    Calls Try.prog 5 #[.slice a1 n c1, .slice a2 n2 c2, .slice a3 n3 c3, .slice b1 m d1, .slice b2 m2 d2, .slice b3 m3 d3] w (fun e w' => Trues5 w w' e) := by
  have H : Hid (ArgC w a1 a2 a3 n n2 n3 S U A L C F) := h
  have H' : Hid (ArgC w b1 b2 b3 m m2 m3 S' U' A' L' C' F') := h'
  clear h h'
  go_enter Try.func5, Try.ntmps5
  go_wp2_with fail
  refine (size19 a1 a2 a3 n n2 n3 c1 c2 c3 S A L C b1 b2 b3 m m2 m3 d1 d2 d3 S' A' L' C' w H.out.s H.out.b H'.out.s H'.out.b).mono ?_
  rintro e wq ⟨b, rfl, hq, hsz⟩
  subst wq
  cases b with
  | false =>
    clear hsz
    go_wp2_with fail
    go_ret
    exact ⟨rfl, Below.refl _ _⟩
  | true =>
    obtain ⟨⟨s1, s2, s3, s4⟩, ⟨s1', s2', s3', s4'⟩⟩ := hsz rfl
    have HL : Hid ((∀ j, j < n3 → L j ≤ 1048576) ∧ ∀ j, j < m3 → L' j ≤ 1048576) := ⟨s4, s4'⟩
    clear hsz s4 s4'
    go_wp2_with fail
    refine (tooLong_any a1 a2 a3 n n2 n3 c1 c2 c3 _).mono ?_
    rintro e wx ⟨bt, rfl, hq⟩
    subst wx
    cases bt with
    | true =>
      go_wp2_with fail
      go_ret
      exact ⟨rfl, Below.refl _ _⟩
    | false =>
      go_wp2_with fail
      refine (tooLong_any b1 b2 b3 m m2 m3 d1 d2 d3 _).mono ?_
      rintro e wx ⟨bt, rfl, hq⟩
      subst wx
      cases bt with
      | true =>
        go_wp2_with fail
        go_ret
        exact ⟨rfl, Below.refl _ _⟩
      | false =>
        go_wp2_with fail
        refine (bytes_any _ a1 a2 a3 n n2 n3 c1 c2 c3 S A L C _ (by omega) (by omega) s1 s2 s3 HL.out.1 H.out.s H.out.b).mono ?_
        rintro e wx ⟨t1, rfl, ht1, ht1', hq⟩
        subst wx
        go_wp2_with fail
        refine (bytes_any _ b1 b2 b3 m m2 m3 d1 d2 d3 S' A' L' C' _ ht1 ht1' s1' s2' s3' HL.out.2 H'.out.s H'.out.b).mono ?_
        rintro e wx ⟨t2, rfl, ht2, ht2', hq⟩
        subst wx
        by_cases hbig : 1048576 < t2
        · go_wp2_with fail
          go_ret
          exact ⟨rfl, Below.refl _ _⟩
        · go_wp2_with fail
          refine (valid_f a1 a2 a3 n n2 n3 c1 c2 c3 S U A L C F _ (by omega) (fun j hj => by have := HL.out.1 j hj; omega) H.out.hu H.out.hf H.out.s H.out.u H.out.b H.out.f).mono ?_
          rintro e w1 ⟨v1, rfl, hv1, bel1⟩
          cases v1 with
          | false =>
            clear hv1
            go_wp2_with fail
            go_ret
            exact ⟨rfl, bel1⟩
          | true =>
            have HV1 : Hid (ValidF n n2 n3 S U L F) := hv1.1 rfl
            have G1 := H.out.now bel1
            have G1' := H'.out.now bel1
            have HG1 : Hid (ArgC w1 a1 a2 a3 n n2 n3 S U A L C F) := G1
            have HG1' : Hid (ArgC w1 b1 b2 b3 m m2 m3 S' U' A' L' C' F') := G1'
            clear hv1 G1 G1'
            go_wp2_with fail
            refine (valid_f b1 b2 b3 m m2 m3 d1 d2 d3 S' U' A' L' C' F' _ (by omega) (fun j hj => by have := HL.out.2 j hj; omega) HG1'.out.hu HG1'.out.hf HG1'.out.s HG1'.out.u HG1'.out.b HG1'.out.f).mono ?_
            rintro e w2 ⟨v2, rfl, hv2, bel2⟩
            have BEL2 := Below.step bel1 bel2
            cases v2 with
            | false =>
              clear hv2
              go_wp2_with fail
              go_ret
              exact ⟨rfl, BEL2⟩
            | true =>
              have HV2 : Hid (ValidF m m2 m3 S' U' L' F') := hv2.1 rfl
              obtain ⟨e1, e2, -⟩ := HV1.out
              obtain ⟨e3, e4, -⟩ := HV2.out
              subst n2
              subst n3
              subst m2
              subst m3
              have HG2 : Hid (ArgC w2 a1 a2 a3 n n n S U A L C F) := HG1.out.now bel2
              have HG2' : Hid (ArgC w2 b1 b2 b3 m m m S' U' A' L' C' F') := HG1'.out.now bel2
              clear hv2 bel1 bel2 HG1 HG1'
              go_wp2_with fail
              refine (copy_cx _ HG2.out s1 HL.out.1 HV1.out).mono ?_
              rintro e w3 ⟨cc, rfl, hcA, hcG, bel3⟩
              have tr3 := trip w3 (.slice cc.a1 cc.n cc.c1) (.slice cc.a2 cc.n cc.c2) (.slice cc.a3 cc.n cc.c3) 30
              have be4 : Below w3.heap.size w3 (w3.alloc (.cells #[.slice cc.a1 cc.n cc.c1, .slice cc.a2 cc.n cc.c2, .slice cc.a3 cc.n cc.c3] 30)) := (Below.refl _ _).alloc (Nat.le_refl _) _
              have z4 : (w3.alloc (.cells #[.slice cc.a1 cc.n cc.c1, .slice cc.a2 cc.n cc.c2, .slice cc.a3 cc.n cc.c3] 30)).heap.size = w3.heap.size + 1 := by rw [Go.Deep.nblk_alloc]
              go_wp2_with fail
              generalize w3.alloc (.cells #[.slice cc.a1 cc.n cc.c1, .slice cc.a2 cc.n cc.c2, .slice cc.a3 cc.n cc.c3] 30) = w4 at *
              have HG4 : Hid (ArgC w4 b1 b2 b3 m m m S' U' A' L' C' F') := HG2'.out.now (Below.step bel3 be4)
              refine (copy_cx _ HG4.out s1' HL.out.2 HV2.out).mono ?_
              rintro e w5 ⟨co, rfl, hoA, hoG, bel5⟩
              have tr5 := trip w5 (.slice co.a1 co.n co.c1) (.slice co.a2 co.n co.c2) (.slice co.a3 co.n co.c3) 30
              have be6 : Below w5.heap.size w5 (w5.alloc (.cells #[.slice co.a1 co.n co.c1, .slice co.a2 co.n co.c2, .slice co.a3 co.n co.c3] 30)) := (Below.refl _ _).alloc (Nat.le_refl _) _
              have HC5 : Hid (cc.At w5) := (hcA.now be4).now bel5
              have tr3' := tr3.on bel5 tr3.lt
              go_upto_region 13 with fail
              generalize w5.alloc (.cells #[.slice co.a1 co.n co.c1, .slice co.a2 co.n co.c2, .slice co.a3 co.n co.c3] 30) = w6 at *
              have TC := tr3'.on be6 tr3'.lt
              have HCA : Hid (cc.At w6) := HC5.out.now be6
              have HOA : Hid (co.At w6) := hoA.now be6
              have HCG : Hid (cc.Good 1048576) := hcG
              have HOG : Hid (co.Good 1048576) := hoG
              have BEL6 : Hid (Below w.heap.size w w6) := Below.step (Below.step (Below.step (Below.step BEL2 bel3) be4) bel5) be6
              have HTC : Hid (Trip w6 w3.heap.size (.slice cc.a1 cc.n cc.c1) (.slice cc.a2 cc.n cc.c2) (.slice cc.a3 cc.n cc.c3)) := TC
              have HTO : Hid (Trip w6 w5.heap.size (.slice co.a1 co.n co.c1) (.slice co.a2 co.n co.c2) (.slice co.a3 co.n co.c3)) := tr5
              clear hcA hcG hoA hoG HC5 tr3' tr3 be4 be6 bel3 bel5 BEL2 HG2 HG2' HG4 HV1 HV2 HL H H' z4
              obtain ⟨x0, x1, x2, xf, xl⟩ := TC
              obtain ⟨y0, y1, y2, yf, yl⟩ := tr5
              clear xf yf
              have HMC : ∀ w', Below w6.heap.size w6 w' → Calls Try.prog 14 #[cc.val] w' (fun e w'' => ∃ a cp, e = .returned (.agg #[.slice a cc.rws.length cp]) ∧ CtxR w'' a cp cc.rws 1048576 ∧ Below w6.heap.size w6 w'' ∧ Below w'.heap.size w' w'') :=
                fun w' hb => (make_cx cc HCG.out w' (HCA.out.now hb)).mono (by rintro e w'' ⟨a, cp, rfl, k, b⟩; exact ⟨a, cp, rfl, k, Below.step hb b, b⟩)
              have HMO : ∀ w', Below w6.heap.size w6 w' → Calls Try.prog 14 #[co.val] w' (fun e w'' => ∃ a cp, e = .returned (.agg #[.slice a co.rws.length cp]) ∧ CtxR w'' a cp co.rws 1048576 ∧ Below w6.heap.size w6 w'' ∧ Below w'.heap.size w' w'') :=
                fun w' hb => (make_cx co HOG.out w' (HOA.out.now hb)).mono (by rintro e w'' ⟨a, cp, rfl, k, b⟩; exact ⟨a, cp, rfl, k, Below.step hb b, b⟩)
              have HMC : Hid (∀ w', Below w6.heap.size w6 w' → Calls Try.prog 14 #[cc.val] w' (fun e w'' => ∃ a cp, e = .returned (.agg #[.slice a cc.rws.length cp]) ∧ CtxR w'' a cp cc.rws 1048576 ∧ Below w6.heap.size w6 w'' ∧ Below w'.heap.size w' w'')) := HMC
              have HMO : Hid (∀ w', Below w6.heap.size w6 w' → Calls Try.prog 14 #[co.val] w' (fun e w'' => ∃ a cp, e = .returned (.agg #[.slice a co.rws.length cp]) ∧ CtxR w'' a cp co.rws 1048576 ∧ Below w6.heap.size w6 w'' ∧ Below w'.heap.size w' w'')) := HMO
              go_cut [16] (fun v wx => Res (IsCut cc.lst co.lst) 1048576 w6 v wx)
              case first =>
                obtain ⟨_, _, _, _, _, _, _⟩ := pack (Below.drew (Below.refl w6.heap.size w6)) HTC.out
                obtain ⟨_, _, _, _, _, _, _⟩ := pack (Below.drew (Below.refl w6.heap.size w6)) HTO.out
                obtain ⟨_, _, _, _, _, _, _⟩ := pack (Below.refl w6.heap.size w6) HTC.out
                obtain ⟨_, _, _, _, _, _, _⟩ := pack (Below.refl w6.heap.size w6) HTO.out
                have bz0 : Below w6.heap.size w6 (w6.alloc ZO).drew := Below.drew ((Below.refl _ _).alloc (Nat.le_refl _) _)
                have _ : (w6.alloc ZO).drew.heap.size = w6.heap.size + 1 := by show (w6.alloc ZO).heap.size = _; rw [Go.Deep.nblk_alloc]
                have _ : (w6.alloc ZO).drew.cell? ⟨w3.heap.size, 0, none⟩ = some (.slice cc.a1 cc.n cc.c1) := alloc_cell x0 _
                have _ : (w6.alloc ZO).drew.cell? ⟨w5.heap.size, 0, none⟩ = some (.slice co.a1 co.n co.c1) := alloc_cell y0 _
                have _ : (w6.alloc ZO).drew.cell? ⟨w3.heap.size, 1, none⟩ = some (.slice cc.a2 cc.n cc.c2) := alloc_cell x1 _
                have _ : (w6.alloc ZO).drew.cell? ⟨w5.heap.size, 1, none⟩ = some (.slice co.a2 co.n co.c2) := alloc_cell y1 _
                have _ : (w6.alloc ZO).drew.cell? ⟨w3.heap.size, 2, none⟩ = some (.slice cc.a3 cc.n cc.c3) := alloc_cell x2 _
                have _ : (w6.alloc ZO).drew.cell? ⟨w5.heap.size, 2, none⟩ = some (.slice co.a3 co.n co.c3) := alloc_cell y2 _
                have HJ' : Hid (∀ (a b : Option Addr) (c d : Nat) (ts us : List Rw) (N1 N2 : Nat) (w : World) (_ : N1 ≤ 4194304) (_ : N2 ≤ 4194304) (_ : CtxR w a c ts N1) (_ : CtxR w b d us N2), Calls Try.prog 20 #[.agg #[.slice a ts.length c], .agg #[.slice b us.length d]] w (fun e w' => GaveC (IsCut (ts.map Rw.rn) (us.map Rw.rn)) N1 w w' e)) := HJ
                go_region_held (fun w' => w'.cell? ⟨w3.heap.size, 0, none⟩ = some (.slice cc.a1 cc.n cc.c1) ∧ w'.cell? ⟨w3.heap.size, 1, none⟩ = some (.slice cc.a2 cc.n cc.c2) ∧ w'.cell? ⟨w3.heap.size, 2, none⟩ = some (.slice cc.a3 cc.n cc.c3) ∧ w'.cell? ⟨w5.heap.size, 0, none⟩ = some (.slice co.a1 co.n co.c1) ∧ w'.cell? ⟨w5.heap.size, 1, none⟩ = some (.slice co.a2 co.n co.c2) ∧ w'.cell? ⟨w5.heap.size, 2, none⟩ = some (.slice co.a3 co.n co.c3)) (first | (with_reducible exact ⟨by assumption, by assumption, by assumption, by assumption, by assumption, by assumption⟩) | (with_reducible exact ⟨far3 (by assumption) (by simp only; omega) _ _ _, far3 (by assumption) (by simp only; omega) _ _ _, far3 (by assumption) (by simp only; omega) _ _ _, far3 (by assumption) (by simp only; omega) _ _ _, far3 (by assumption) (by simp only; omega) _ _ _, far3 (by assumption) (by simp only; omega) _ _ _⟩) | (with_reducible exact ⟨alloc_cell (by assumption) _, alloc_cell (by assumption) _, alloc_cell (by assumption) _, alloc_cell (by assumption) _, alloc_cell (by assumption) _, alloc_cell (by assumption) _⟩)) (first | (go_at_call 14; (with_reducible refine (HMC.out _ (by first | assumption | exact Below.drew (Below.refl _ _))).mono ?_); rintro e wC ⟨aC, cC, rfl, kC, bC, bC'⟩; (try have kO : CtxR wC aO cO co.rws 1048576 := (by first | (with_reducible exact kO.now bC') | (with_reducible exact (kO.now ((Below.refl _ _).alloc (Nat.le_refl _) _)).now bC'))); have _ := bC.size; obtain ⟨_, _, _, _, _, _, _⟩ := pack bC HTC.out; obtain ⟨_, _, _, _, _, _, _⟩ := pack bC HTO.out; (first | (have VZ := VZ.on bC') | (with_reducible have VZ := var_on bC') | (with_reducible have VZ := var_on_d bC') | skip); (try (have t0 := VZ.trip.c0; have t1 := VZ.trip.c1; have t2 := VZ.trip.c2; have tf0 := VZ.trip.fr 0; have tf1 := VZ.trip.fr 1; have tf2 := VZ.trip.fr 2))) | (go_at_call 14; (with_reducible refine (HMO.out _ (by first | assumption | exact Below.drew (Below.refl _ _))).mono ?_); rintro e wO ⟨aO, cO, rfl, kO, bO, bO'⟩; (try have kC : CtxR wO aC cC cc.rws 1048576 := (by first | (with_reducible exact kC.now bO') | (with_reducible exact (kC.now ((Below.refl _ _).alloc (Nat.le_refl _) _)).now bO'))); have _ := bO.size; obtain ⟨_, _, _, _, _, _, _⟩ := pack bO HTC.out; obtain ⟨_, _, _, _, _, _, _⟩ := pack bO HTO.out; (first | (have VZ := VZ.on bO') | (with_reducible have VZ := var_on bO') | (with_reducible have VZ := var_on_d bO') | skip); (try (have t0 := VZ.trip.c0; have t1 := VZ.trip.c1; have t2 := VZ.trip.c2; have tf0 := VZ.trip.fr 0; have tf1 := VZ.trip.fr 1; have tf2 := VZ.trip.fr 2))) | (go_at_call 20; (with_reducible refine (HJ'.out _ _ _ _ cc.rws co.rws 1048576 1048576 _ (by omega) (by omega) (by first | exact kC | exact kC.now ((Below.refl _ _).alloc (Nat.le_refl _) _)) (by first | exact kO | exact kO.now ((Below.refl _ _).alloc (Nat.le_refl _) _))).mono ?_); rintro e wJ ⟨aJ, cJ, rs, rfl, kJ, hU, bJ'⟩; have bJ : Below w6.heap.size w6 wJ := (by first | (with_reducible exact Below.step bO bJ') | (with_reducible exact Below.step bC bJ') | (with_reducible exact Below.step (Below.step bO ((Below.refl _ _).alloc (Nat.le_refl _) _)) bJ') | (with_reducible exact Below.step (Below.step bC ((Below.refl _ _).alloc (Nat.le_refl _) _)) bJ')); have _ := bJ.size; obtain ⟨_, _, _, _, _, _, _⟩ := pack bJ HTC.out; obtain ⟨_, _, _, _, _, _, _⟩ := pack bJ HTO.out; (first | (have VZ := VZ.on bJ') | (with_reducible have VZ := var_on bJ') | (with_reducible have VZ := var_on_d bJ') | skip); (try (have t0 := VZ.trip.c0; have t1 := VZ.trip.c1; have t2 := VZ.trip.c2; have tf0 := VZ.trip.fr 0; have tf1 := VZ.trip.fr 1; have tf2 := VZ.trip.fr 2))) | (go_at_call 13; (with_reducible refine (read_cx' (by first | exact kJ | exact kJ.now ((Below.refl _ _).alloc (Nat.le_refl _) _)) (by omega)).mono ?_); rintro e wR ⟨r1, r2, r3, rfl, hrA, hoff, bR'⟩; have bR : Below w6.heap.size w6 wR := (by first | (with_reducible exact Below.step bJ bR') | (with_reducible exact Below.step (Below.step bJ ((Below.refl _ _).alloc (Nat.le_refl _) _)) bR')); have _ := bR.size; (first | (have hro := hoff _ VZ.trip.lt) | (have hro := hoff _ (var_new _).trip.lt) | skip); obtain ⟨_, _, _, _, _, _, _⟩ := pack bR HTC.out; obtain ⟨_, _, _, _, _, _, _⟩ := pack bR HTO.out; (first | (have VZ := VZ.on bR') | (with_reducible have VZ := var_on bR') | (with_reducible have VZ := var_on_d bR') | skip); (try (have t0 := VZ.trip.c0; have t1 := VZ.trip.c1; have t2 := VZ.trip.c2; have tf0 := VZ.trip.fr 0; have tf1 := VZ.trip.fr 1; have tf2 := VZ.trip.fr 2))))
                all_goals
                  first
                    | (have HR : Hid (Res (IsCut cc.lst co.lst) 1048576 w6 (.pointer (some ⟨wR.heap.size, 0, none⟩)) (wR.alloc (cxOf r1 r2 r3 rs).obj)) := res_last hrA (fun _ _ _ => cxOf_good kJ (by omega) _ _ _) hU bR
                       go_wp2_with fail
                       go_meet
                       case rel => exact HR.out)
                    | (have HR := res_early hrA (fun _ _ _ => cxOf_good kJ (by omega) _ _ _) hU bR VZ (by first | exact bC.size | exact bO.size | exact bJ.size | exact Nat.le_refl _) hro
                       have HR : Hid _ := HR
                       go_wp2_with fail
                       go_meet
                       case rel => exact HR.out)
              case rest =>
                obtain ⟨r1, r2, r3, rs, g, rfl, hbox, hrA, hrG, hU, bx⟩ := hcut
                obtain ⟨R, hR⟩ : ∃ R, R = cxOf r1 r2 r3 rs := ⟨_, rfl⟩
                have HX : Hid (∀ a x m, co.Last a m → (R.Has a x ↔ (cc.Has a x ∨ (cxOf none none none []).Has a x) ∧ x ≤ m)) := by
                  intro a x m hm
                  rw [hR, cxOf_has, cc.has_lst, hU a m (last_top hm) x]
                  constructor
                  · rintro ⟨k1, k2⟩; exact ⟨Or.inl k1, k2⟩
                  · rintro ⟨k | k, k2⟩
                    · exact ⟨k, k2⟩
                    · exact absurd k (zero_has _ _)
                rw [← hR] at hbox hrA hrG
                clear hR hU HMC HMO
                have HO : Hid (R.Good 1048576 ∧ cc.OK 1048576 ∧ co.OK 1048576 ∧ (cxOf none none none []).OK 1048576) := ⟨hrG, (HCG.out.mono (by omega) (by omega)).ok, (HOG.out.mono (by omega) (by omega)).ok, (zero_good.mono (by omega) (by omega)).ok⟩
                obtain ⟨f0, f1, f2, ff, fl⟩ := hbox
                have hbox : R.Box wc g := ⟨f0, f1, f2, ff, fl⟩
                have HBX : Hid (R.Box wc g) := hbox
                clear hbox ff hrG
                have hrA' : Hid (R.At wc) := hrA
                have BX : Hid (Below w6.heap.size w6 wc) := bx
                clear hrA bx
                go_wp2_with fail
                refine (valid_cx R HO.out.1 _ hrA'.out).mono ?_
                rintro e w8 ⟨rfl, b8⟩
                have ba : Below w8.heap.size w8 (w8.alloc ZO) := (Below.refl _ _).alloc (Nat.le_refl _) _
                have bt : Below w6.heap.size w6 (w8.alloc ZO) := Below.step (Below.step BX.out b8) ba
                have hE := trip w8 (.slice none 0 0) (.slice none 0 0) (.slice none 0 0) 30
                have hRb := (HBX.out.on b8 HBX.out.lt).on ba (HBX.out.on b8 HBX.out.lt).lt
                have HRA : Hid (R.At (w8.alloc ZO)) := (hrA'.out.now b8).now ba
                clear x0 x1 x2 y0 y1 y2 f0 f1 f2 b8 ba
                obtain ⟨x0, x1, x2, xf, xl'⟩ := HTC.out.on bt HTC.out.lt
                obtain ⟨y0, y1, y2, yf, yl'⟩ := HTO.out.on bt HTO.out.lt
                obtain ⟨f0, f1, f2, ff, fl'⟩ := hRb
                obtain ⟨e0, e1, e2, ef, el'⟩ := hE
                have HBB : Hid (R.Box (w8.alloc ZO) g ∧ (cxOf none none none []).Box (w8.alloc ZO) w8.heap.size) := ⟨⟨f0, f1, f2, ff, fl'⟩, ⟨e0, e1, e2, ef, el'⟩⟩
                clear xf yf ff ef
                go_wp2_with fail
                generalize w8.alloc ZO = w9 at *
                have BT : Hid (Below w6.heap.size w6 w9) := bt
                clear bt
                refine (capA_f cc R cc (cxOf none none none []) co 1048576 w9 (by omega) HO.out.2.1 HO.out.1.ok HO.out.2.1 HO.out.2.2.2 HO.out.2.2.1 (HCA.out.now BT.out) HRA.out (HCA.out.now BT.out) (zero_at _) (HOA.out.now BT.out) HX.out).mono ?_
                rintro e wa ⟨rfl, ba⟩
                have BA : Hid (Below w6.heap.size w6 wa) := Below.step BT.out ba
                have HRa : Hid (R.At wa) := HRA.out.now ba
                have HBa : Hid (R.Box wa g ∧ (cxOf none none none []).Box wa w8.heap.size) := ⟨HBB.out.1.on ba HBB.out.1.lt, HBB.out.2.on ba HBB.out.2.lt⟩
                clear x0 x1 x2 y0 y1 y2 f0 f1 f2 e0 e1 e2 ba xl' yl' fl' el'
                obtain ⟨x0, x1, x2, xf, xl'⟩ := HTC.out.on BA.out HTC.out.lt
                obtain ⟨y0, y1, y2, yf, yl'⟩ := HTO.out.on BA.out HTO.out.lt
                obtain ⟨⟨f0, f1, f2, ff, fl'⟩, ⟨e0, e1, e2, ef, el'⟩⟩ := HBa.out
                clear xf yf ff ef
                go_wp2_with fail
                refine (capA_f R R cc (cxOf none none none []) co 1048576 wa (by omega) HO.out.1.ok HO.out.1.ok HO.out.2.1 HO.out.2.2.2 HO.out.2.2.1 HRa.out HRa.out (HCA.out.now BA.out) (zero_at _) (HOA.out.now BA.out) HX.out).mono ?_
                rintro e wd ⟨rfl, bd⟩
                have BD : Hid (Below w.heap.size w wd) := Below.step (Below.step BEL6.out BA.out) bd
                clear x0 x1 x2 y0 y1 y2 f0 f1 f2 e0 e1 e2 bd xl' yl' fl' el'
                go_wp2_with fail
                go_ret
                exact ⟨rfl, BD.out⟩
end Go.Proofs.Qxb6620807a
