import Derived.Test.Qxb6620807aCapL
import Derived.Test.Qxb6620807aSame2
import Derived.Test.Qxb6620807aSize22
import Derived.Deep.CutBlock
import Derived.Deep.RegionHeld
namespace Go.Proofs.Qxb6620807a
open Go.RowKit
set_option linter.unusedVariables false

def Trues6 (w w' : World) (e : Ending) : Prop := e = .returned (.bool true) ∧ Below w.heap.size w w'

set_option maxRecDepth 100000 in
set_option maxHeartbeats 16000000 in
theorem walk6 (HJ : JoinCSpec) (HC : CapCSpec) (a01 a02 a03 : Option Addr) (n0 n02 n03 c01 c02 c03 : Nat) (S0 : Nat → ByteArray) (U0 : Nat → Int) (A0 : Nat → Option Addr) (L0 C0 : Nat → Nat) (F0 : Nat → Nat → Int) (a11 a12 a13 : Option Addr) (n1 n12 n13 c11 c12 c13 : Nat) (S1 : Nat → ByteArray) (U1 : Nat → Int) (A1 : Nat → Option Addr) (L1 C1 : Nat → Nat) (F1 : Nat → Nat → Int) (a21 a22 a23 : Option Addr) (n2 n22 n23 c21 c22 c23 : Nat) (S2 : Nat → ByteArray) (U2 : Nat → Int) (A2 : Nat → Option Addr) (L2 C2 : Nat → Nat) (F2 : Nat → Nat → Int) (w : World) (h0 : ArgC w a01 a02 a03 n0 n02 n03 S0 U0 A0 L0 C0 F0) (h1 : ArgC w a11 a12 a13 n1 n12 n13 S1 U1 A1 L1 C1 F1) (h2 : ArgC w a21 a22 a23 n2 n22 n23 S2 U2 A2 L2 C2 F2) :
    Calls Try.prog 6 #[.slice a01 n0 c01, .slice a02 n02 c02, .slice a03 n03 c03, .slice a11 n1 c11, .slice a12 n12 c12, .slice a13 n13 c13, .slice a21 n2 c21, .slice a22 n22 c22, .slice a23 n23 c23] w (fun e w' => Trues6 w w' e) := by
  have H0 : Hid (ArgC w a01 a02 a03 n0 n02 n03 S0 U0 A0 L0 C0 F0) := h0
  have H1 : Hid (ArgC w a11 a12 a13 n1 n12 n13 S1 U1 A1 L1 C1 F1) := h1
  have H2 : Hid (ArgC w a21 a22 a23 n2 n22 n23 S2 U2 A2 L2 C2 F2) := h2
  clear h0 h1 h2
  go_enter Try.func6, Try.ntmps6
  go_wp2_with fail
  refine (size22 a01 a02 a03 n0 n02 n03 c01 c02 c03 S0 A0 L0 C0 a11 a12 a13 n1 n12 n13 c11 c12 c13 S1 A1 L1 C1 a21 a22 a23 n2 n22 n23 c21 c22 c23 S2 A2 L2 C2 w H0.out.s H0.out.b H1.out.s H1.out.b H2.out.s H2.out.b).mono ?_
  rintro e wq ⟨b, rfl, hq, hsz⟩
  subst wq
  cases b with
  | false =>
    clear hsz
    go_wp2_with fail
    go_ret
    exact ⟨rfl, Below.refl _ _⟩
  | true =>
    obtain ⟨⟨s01, s02, s03, s04⟩, ⟨s11, s12, s13, s14⟩, ⟨s21, s22, s23, s24⟩⟩ := hsz rfl
    have HL0 : Hid (∀ j, j < n03 → L0 j ≤ 1048576) := s04
    have HL1 : Hid (∀ j, j < n13 → L1 j ≤ 1048576) := s14
    have HL2 : Hid (∀ j, j < n23 → L2 j ≤ 1048576) := s24
    clear hsz s04 s14 s24
    go_wp2_with fail
    refine (tooLong_any a01 a02 a03 n0 n02 n03 c01 c02 c03 _).mono ?_
    rintro e wx ⟨bt, rfl, hq⟩
    subst wx
    cases bt with
    | true =>
      go_wp2_with fail
      go_ret
      exact ⟨rfl, Below.refl _ _⟩
    | false =>
      go_wp2_with fail
      refine (tooLong_any a11 a12 a13 n1 n12 n13 c11 c12 c13 _).mono ?_
      rintro e wx ⟨bt, rfl, hq⟩
      subst wx
      cases bt with
      | true =>
        go_wp2_with fail
        go_ret
        exact ⟨rfl, Below.refl _ _⟩
      | false =>
        go_wp2_with fail
        refine (tooLong_any a21 a22 a23 n2 n22 n23 c21 c22 c23 _).mono ?_
        rintro e wx ⟨bt, rfl, hq⟩
        subst wx
        cases bt with
        | true =>
          go_wp2_with fail
          go_ret
          exact ⟨rfl, Below.refl _ _⟩
        | false =>
          go_wp2_with fail
          refine (bytes_any _ a01 a02 a03 n0 n02 n03 c01 c02 c03 S0 A0 L0 C0 _ (by omega) (by omega) s01 s02 s03 HL0.out H0.out.s H0.out.b).mono ?_
          rintro e wx ⟨t0, rfl, t0a, t0b, hq⟩
          subst wx
          go_wp2_with fail
          refine (bytes_any _ a11 a12 a13 n1 n12 n13 c11 c12 c13 S1 A1 L1 C1 _ t0a t0b s11 s12 s13 HL1.out H1.out.s H1.out.b).mono ?_
          rintro e wx ⟨t1, rfl, t1a, t1b, hq⟩
          subst wx
          go_wp2_with fail
          refine (bytes_any _ a21 a22 a23 n2 n22 n23 c21 c22 c23 S2 A2 L2 C2 _ t1a t1b s21 s22 s23 HL2.out H2.out.s H2.out.b).mono ?_
          rintro e wx ⟨t2, rfl, t2a, t2b, hq⟩
          subst wx
          by_cases hbig : 1048576 < t2
          · go_wp2_with fail
            go_ret
            exact ⟨rfl, Below.refl _ _⟩
          · go_wp2_with fail
            refine (valid_f a01 a02 a03 n0 n02 n03 c01 c02 c03 S0 U0 A0 L0 C0 F0 _ (by omega) (fun j hj => by have := HL0.out j hj; omega) H0.out.hu H0.out.hf H0.out.s H0.out.u H0.out.b H0.out.f).mono ?_
            rintro e x0 ⟨v0, rfl, hv0, bel0⟩
            have BV1 : Hid (Below w.heap.size w x0) := bel0
            cases v0 with
            | false =>
              clear hv0
              go_wp2_with fail
              go_ret
              exact ⟨rfl, BV1.out⟩
            | true =>
              have HV0 : Hid (ValidF n0 n02 n03 S0 U0 L0 F0) := hv0.1 rfl
              clear hv0 bel0
              go_wp2_with fail
              refine (valid_f a11 a12 a13 n1 n12 n13 c11 c12 c13 S1 U1 A1 L1 C1 F1 _ (by omega) (fun j hj => by have := HL1.out j hj; omega) H1.out.hu H1.out.hf (H1.out.now BV1.out).s (H1.out.now BV1.out).u (H1.out.now BV1.out).b (H1.out.now BV1.out).f).mono ?_
              rintro e x1 ⟨v1, rfl, hv1, bel1⟩
              have BV2 : Hid (Below w.heap.size w x1) := Below.step BV1.out bel1
              cases v1 with
              | false =>
                clear hv1
                go_wp2_with fail
                go_ret
                exact ⟨rfl, BV2.out⟩
              | true =>
                have HV1 : Hid (ValidF n1 n12 n13 S1 U1 L1 F1) := hv1.1 rfl
                clear hv1 bel1
                go_wp2_with fail
                refine (valid_f a21 a22 a23 n2 n22 n23 c21 c22 c23 S2 U2 A2 L2 C2 F2 _ (by omega) (fun j hj => by have := HL2.out j hj; omega) H2.out.hu H2.out.hf (H2.out.now BV2.out).s (H2.out.now BV2.out).u (H2.out.now BV2.out).b (H2.out.now BV2.out).f).mono ?_
                rintro e x2 ⟨v2, rfl, hv2, bel2⟩
                have BV3 : Hid (Below w.heap.size w x2) := Below.step BV2.out bel2
                cases v2 with
                | false =>
                  clear hv2
                  go_wp2_with fail
                  go_ret
                  exact ⟨rfl, BV3.out⟩
                | true =>
                  have HV2 : Hid (ValidF n2 n22 n23 S2 U2 L2 F2) := hv2.1 rfl
                  clear hv2 bel2
                  go_wp2_with fail
                  obtain ⟨ea0, eb0, -⟩ := HV0.out
                  subst n02
                  subst n03
                  obtain ⟨ea1, eb1, -⟩ := HV1.out
                  subst n12
                  subst n13
                  obtain ⟨ea2, eb2, -⟩ := HV2.out
                  subst n22
                  subst n23
                  refine (copy_cx _ (H0.out.now BV3.out) s01 HL0.out HV0.out).mono ?_
                  rintro e y0 ⟨k0, rfl, kA0, kG0, by0⟩
                  have tr0 := trip y0 (.slice k0.a1 k0.n k0.c1) (.slice k0.a2 k0.n k0.c2) (.slice k0.a3 k0.n k0.c3) 30
                  have bz0 : Below y0.heap.size y0 (y0.alloc k0.obj) := (Below.refl _ _).alloc (Nat.le_refl _) _
                  go_wp2_with fail
                  generalize y0.alloc k0.obj = z0 at *
                  have BZ0 : Hid (Below w.heap.size w z0) := Below.step (Below.step BV3.out by0) bz0
                  have T0 : Hid (Trip z0 y0.heap.size (.slice k0.a1 k0.n k0.c1) (.slice k0.a2 k0.n k0.c2) (.slice k0.a3 k0.n k0.c3)) := tr0
                  have KA0 : Hid (k0.At z0) := kA0.now bz0
                  have KG0 : Hid (k0.Good 1048576) := kG0
                  clear tr0 kA0 kG0 by0 bz0
                  refine (copy_cx _ (H1.out.now BZ0.out) s11 HL1.out HV1.out).mono ?_
                  rintro e y1 ⟨k1, rfl, kA1, kG1, by1⟩
                  have tr1 := trip y1 (.slice k1.a1 k1.n k1.c1) (.slice k1.a2 k1.n k1.c2) (.slice k1.a3 k1.n k1.c3) 30
                  have bz1 : Below y1.heap.size y1 (y1.alloc k1.obj) := (Below.refl _ _).alloc (Nat.le_refl _) _
                  go_wp2_with fail
                  generalize y1.alloc k1.obj = z1 at *
                  have BZ1 : Hid (Below w.heap.size w z1) := Below.step (Below.step BZ0.out by1) bz1
                  have T0 : Hid (Trip z1 y0.heap.size (.slice k0.a1 k0.n k0.c1) (.slice k0.a2 k0.n k0.c2) (.slice k0.a3 k0.n k0.c3)) := (T0.out.on by1 T0.out.lt).on bz1 (T0.out.on by1 T0.out.lt).lt
                  have KA0 : Hid (k0.At z1) := (KA0.out.now by1).now bz1
                  have T1 : Hid (Trip z1 y1.heap.size (.slice k1.a1 k1.n k1.c1) (.slice k1.a2 k1.n k1.c2) (.slice k1.a3 k1.n k1.c3)) := tr1
                  have KA1 : Hid (k1.At z1) := kA1.now bz1
                  have KG1 : Hid (k1.Good 1048576) := kG1
                  clear tr1 kA1 kG1 by1 bz1
                  refine (copy_cx _ (H2.out.now BZ1.out) s21 HL2.out HV2.out).mono ?_
                  rintro e y2 ⟨k2, rfl, kA2, kG2, by2⟩
                  have tr2 := trip y2 (.slice k2.a1 k2.n k2.c1) (.slice k2.a2 k2.n k2.c2) (.slice k2.a3 k2.n k2.c3) 30
                  have bz2 : Below y2.heap.size y2 (y2.alloc k2.obj) := (Below.refl _ _).alloc (Nat.le_refl _) _
                  have bq : Below w.heap.size w (y2.alloc k2.obj) := Below.step (Below.step BZ1.out by2) bz2
                  have tq0 := (T0.out.on by2 T0.out.lt).on bz2 (T0.out.on by2 T0.out.lt).lt
                  have tq1 := (T1.out.on by2 T1.out.lt).on bz2 (T1.out.on by2 T1.out.lt).lt
                  obtain ⟨f0, f1, f2, ff, fl⟩ := tq0
                  clear ff
                  go_wp2_with fail
                  generalize y2.alloc k2.obj = z2 at *
                  have BZ2 : Hid (Below w.heap.size w z2) := Below.step (Below.step BZ1.out by2) bz2
                  have T0 : Hid (Trip z2 y0.heap.size (.slice k0.a1 k0.n k0.c1) (.slice k0.a2 k0.n k0.c2) (.slice k0.a3 k0.n k0.c3)) := (T0.out.on by2 T0.out.lt).on bz2 (T0.out.on by2 T0.out.lt).lt
                  have KA0 : Hid (k0.At z2) := (KA0.out.now by2).now bz2
                  have T1 : Hid (Trip z2 y1.heap.size (.slice k1.a1 k1.n k1.c1) (.slice k1.a2 k1.n k1.c2) (.slice k1.a3 k1.n k1.c3)) := (T1.out.on by2 T1.out.lt).on bz2 (T1.out.on by2 T1.out.lt).lt
                  have KA1 : Hid (k1.At z2) := (KA1.out.now by2).now bz2
                  have T2 : Hid (Trip z2 y2.heap.size (.slice k2.a1 k2.n k2.c1) (.slice k2.a2 k2.n k2.c2) (.slice k2.a3 k2.n k2.c3)) := tr2
                  have KA2 : Hid (k2.At z2) := kA2.now bz2
                  have KG2 : Hid (k2.Good 1048576) := kG2
                  clear tr2 kA2 kG2 by2 bz2
                  clear bq f0 f1 f2 fl tq1
                  refine (make_cx k0 KG0.out _ KA0.out).mono ?_
                  rintro e p0 ⟨d0, cp0, rfl, m0, bp0⟩
                  obtain ⟨q0, hq0, bq0, cq0⟩ := one_step p0 (.slice d0 k0.rws.length cp0)
                  have BM0 : Hid (Below z2.heap.size z2 q0) := Below.step bp0 bq0
                  have M0 : Hid (CtxR q0 d0 cp0 k0.rws 1048576) := m0.now bq0
                  have E0 : Hid (q0.cell? ⟨p0.heap.size, 0, none⟩ = some (.slice d0 k0.rws.length cp0)) := cq0
                  clear m0 cq0 bp0 bq0
                  obtain ⟨f0, f1, f2, ff, fl⟩ := T1.out.on BM0.out T1.out.lt
                  clear ff
                  go_wp2_with fail
                  clear f0 f1 f2 fl hq0
                  refine (make_cx k1 KG1.out _ (KA1.out.now BM0.out)).mono ?_
                  rintro e p1 ⟨d1, cp1, rfl, m1, bp1⟩
                  obtain ⟨q1, hq1, bq1, cq1⟩ := one_step p1 (.slice d1 k1.rws.length cp1)
                  have BM1 : Hid (Below z2.heap.size z2 q1) := Below.step (Below.step BM0.out bp1) bq1
                  have M0 : Hid (CtxR q1 d0 cp0 k0.rws 1048576) := (M0.out.now bp1).now bq1
                  have E0 : Hid (q1.cell? ⟨p0.heap.size, 0, none⟩ = some (.slice d0 k0.rws.length cp0)) := by
                    have h1 : p1.cell? ⟨p0.heap.size, 0, none⟩ = some (.slice d0 k0.rws.length cp0) := by rw [bp1.cell (World.block_lt_of_cell? _ _ E0.out)]; exact E0.out
                    unfold Hid; rw [bq1.cell (World.block_lt_of_cell? _ _ h1)]; exact h1
                  have M1 : Hid (CtxR q1 d1 cp1 k1.rws 1048576) := m1.now bq1
                  have E1 : Hid (q1.cell? ⟨p1.heap.size, 0, none⟩ = some (.slice d1 k1.rws.length cp1)) := cq1
                  clear m1 cq1 bp1 bq1
                  obtain ⟨f0, f1, f2, ff, fl⟩ := T2.out.on BM1.out T2.out.lt
                  clear ff
                  go_wp2_with fail
                  clear f0 f1 f2 fl hq1
                  refine (make_cx k2 KG2.out _ (KA2.out.now BM1.out)).mono ?_
                  rintro e p2 ⟨d2, cp2, rfl, m2, bp2⟩
                  obtain ⟨q2, hq2, bq2, cq2⟩ := one_step p2 (.slice d2 k2.rws.length cp2)
                  have BM2 : Hid (Below z2.heap.size z2 q2) := Below.step (Below.step BM1.out bp2) bq2
                  have M0 : Hid (CtxR q2 d0 cp0 k0.rws 1048576) := (M0.out.now bp2).now bq2
                  have E0 : Hid (q2.cell? ⟨p0.heap.size, 0, none⟩ = some (.slice d0 k0.rws.length cp0)) := by
                    have h1 : p2.cell? ⟨p0.heap.size, 0, none⟩ = some (.slice d0 k0.rws.length cp0) := by rw [bp2.cell (World.block_lt_of_cell? _ _ E0.out)]; exact E0.out
                    unfold Hid; rw [bq2.cell (World.block_lt_of_cell? _ _ h1)]; exact h1
                  have M1 : Hid (CtxR q2 d1 cp1 k1.rws 1048576) := (M1.out.now bp2).now bq2
                  have E1 : Hid (q2.cell? ⟨p1.heap.size, 0, none⟩ = some (.slice d1 k1.rws.length cp1)) := by
                    have h1 : p2.cell? ⟨p1.heap.size, 0, none⟩ = some (.slice d1 k1.rws.length cp1) := by rw [bp2.cell (World.block_lt_of_cell? _ _ E1.out)]; exact E1.out
                    unfold Hid; rw [bq2.cell (World.block_lt_of_cell? _ _ h1)]; exact h1
                  have M2 : Hid (CtxR q2 d2 cp2 k2.rws 1048576) := m2.now bq2
                  have E2 : Hid (q2.cell? ⟨p2.heap.size, 0, none⟩ = some (.slice d2 k2.rws.length cp2)) := cq2
                  clear m2 cq2 bp2 bq2
                  go_upto_region 18 with fail
                  clear hq2
                  have e0 := E0.out
                  have l0 : p0.heap.size < q2.heap.size := World.block_lt_of_cell? _ _ e0
                  have T0 : Hid (Trip q2 y0.heap.size (.slice k0.a1 k0.n k0.c1) (.slice k0.a2 k0.n k0.c2) (.slice k0.a3 k0.n k0.c3)) := T0.out.on BM2.out T0.out.lt
                  have KA0 : Hid (k0.At q2) := KA0.out.now BM2.out
                  have e1 := E1.out
                  have l1 : p1.heap.size < q2.heap.size := World.block_lt_of_cell? _ _ e1
                  have T1 : Hid (Trip q2 y1.heap.size (.slice k1.a1 k1.n k1.c1) (.slice k1.a2 k1.n k1.c2) (.slice k1.a3 k1.n k1.c3)) := T1.out.on BM2.out T1.out.lt
                  have KA1 : Hid (k1.At q2) := KA1.out.now BM2.out
                  have e2 := E2.out
                  have l2 : p2.heap.size < q2.heap.size := World.block_lt_of_cell? _ _ e2
                  have T2 : Hid (Trip q2 y2.heap.size (.slice k2.a1 k2.n k2.c1) (.slice k2.a2 k2.n k2.c2) (.slice k2.a3 k2.n k2.c3)) := T2.out.on BM2.out T2.out.lt
                  have KA2 : Hid (k2.At q2) := KA2.out.now BM2.out
                  have BQ : Hid (Below w.heap.size w q2) := Below.step BZ2.out BM2.out
                  have HJ' : Hid (∀ (a b : Option Addr) (c d : Nat) (ts us : List Rw) (N1 N2 : Nat) (w : World) (_ : N1 + N2 ≤ 16777216) (_ : CtxR w a c ts N1) (_ : CtxR w b d us N2), Calls Try.prog 15 #[.agg #[.slice a ts.length c], .agg #[.slice b us.length d]] w (fun e w' => GaveC (IsUnion (ts.map Rw.rn) (us.map Rw.rn)) (N1 + N2) w w' e)) := HJ
                  have HC' : Hid (∀ (a b : Option Addr) (c d : Nat) (ts us : List Rw) (N1 N2 : Nat) (w : World) (_ : N1 ≤ 4194304) (_ : N2 ≤ 4194304) (_ : CtxR w a c ts N1) (_ : CtxR w b d us N2), Calls Try.prog 20 #[.agg #[.slice a ts.length c], .agg #[.slice b us.length d]] w (fun e w' => GaveC (IsCut (ts.map Rw.rn) (us.map Rw.rn)) N1 w w' e)) := HC
                  clear BM0 BM1 BM2 BZ0 BZ1 BZ2 BV1 BV2 BV3 HV0 HV1 HV2 HL0 HL1 HL2 H0 H1 H2 HJ HC
                  go_cut [26] (fun v wx => Res (fun r => ∀ a x t, Top k2.lst a t → (has r a x ↔ (has k0.lst a x ∨ has k1.lst a x) ∧ x ≤ t)) 2097152 q2 v wx)
                  case first =>
                    obtain ⟨_, _⟩ := pack1 (Below.refl q2.heap.size q2) e0
                    obtain ⟨_, _⟩ := pack1 (Below.refl q2.heap.size q2) e1
                    obtain ⟨_, _⟩ := pack1 (Below.refl q2.heap.size q2) e2
                    obtain ⟨_, _⟩ := pack1 (Below.drew (Below.refl q2.heap.size q2)) e0
                    obtain ⟨_, _⟩ := pack1 (Below.drew (Below.refl q2.heap.size q2)) e1
                    obtain ⟨_, _⟩ := pack1 (Below.drew (Below.refl q2.heap.size q2)) e2
                    have _ : (q2.alloc ZO).drew.cell? ⟨p0.heap.size, 0, none⟩ = some (.slice d0 k0.rws.length cp0) := alloc_cell e0 _
                    have _ : (q2.alloc ZO).drew.cell? ⟨p1.heap.size, 0, none⟩ = some (.slice d1 k1.rws.length cp1) := alloc_cell e1 _
                    have _ : (q2.alloc ZO).drew.cell? ⟨p2.heap.size, 0, none⟩ = some (.slice d2 k2.rws.length cp2) := alloc_cell e2 _
                    have _ : Below q2.heap.size q2 q2.drew := Below.drew (Below.refl _ _)
                    have _ : Below q2.heap.size q2 (q2.alloc ZO).drew := Below.drew (belowZ (Below.refl _ _))
                    have _ : Below q2.heap.size q2 (q2.drew.alloc ZO) := belowZ (Below.drew (Below.refl _ _))
                    have KM0 : Hid (∀ w', Below q2.heap.size q2 w' → CtxR w' d0 cp0 k0.rws 1048576) := fun w' hb => M0.out.now hb
                    have KM1 : Hid (∀ w', Below q2.heap.size q2 w' → CtxR w' d1 cp1 k1.rws 1048576) := fun w' hb => M1.out.now hb
                    have KM2 : Hid (∀ w', Below q2.heap.size q2 w' → CtxR w' d2 cp2 k2.rws 1048576) := fun w' hb => M2.out.now hb
                    go_region_held (fun w' => w'.cell? ⟨p0.heap.size, 0, none⟩ = some (.slice d0 k0.rws.length cp0) ∧ w'.cell? ⟨p1.heap.size, 0, none⟩ = some (.slice d1 k1.rws.length cp1) ∧ w'.cell? ⟨p2.heap.size, 0, none⟩ = some (.slice d2 k2.rws.length cp2)) (first | (with_reducible exact ⟨by assumption, by assumption, by assumption⟩) | (with_reducible exact ⟨far3 (by assumption) (by simp only; omega) _ _ _, far3 (by assumption) (by simp only; omega) _ _ _, far3 (by assumption) (by simp only; omega) _ _ _⟩) | (with_reducible exact ⟨alloc_cell (by assumption) _, alloc_cell (by assumption) _, alloc_cell (by assumption) _⟩)) (first | (go_at_call 15; (with_reducible refine (HJ'.out d0 d1 cp0 cp1 k0.rws k1.rws 1048576 1048576 q2.drew (by omega) (KM0.out q2.drew (by with_reducible assumption)) (KM1.out q2.drew (by with_reducible assumption))).mono ?_); rintro e g1 ⟨u1, v1, rs1, rfl, kk1, hU1, b1'⟩; have b1 : Below q2.heap.size q2 g1 := Below.step (by with_reducible assumption) b1'; have _ := belowZ b1; have _ := b1.size; obtain ⟨_, _⟩ := pack1 b1 e0; obtain ⟨_, _⟩ := pack1 b1 e1; obtain ⟨_, _⟩ := pack1 b1 e2; (first | (have VZ := VZ.on b1') | (with_reducible have VZ := var_on b1') | (with_reducible have VZ := var_on_d b1') | skip); (try (have t0 := VZ.trip.c0; have t1 := VZ.trip.c1; have t2 := VZ.trip.c2; have tf0 := VZ.trip.fr 0; have tf1 := VZ.trip.fr 1; have tf2 := VZ.trip.fr 2))) | (go_at_call 15; (with_reducible refine (HJ'.out d0 d1 cp0 cp1 k0.rws k1.rws 1048576 1048576 (q2.alloc ZO).drew (by omega) (KM0.out (q2.alloc ZO).drew (by with_reducible assumption)) (KM1.out (q2.alloc ZO).drew (by with_reducible assumption))).mono ?_); rintro e g1 ⟨u1, v1, rs1, rfl, kk1, hU1, b1'⟩; have b1 : Below q2.heap.size q2 g1 := Below.step (by with_reducible assumption) b1'; have _ := belowZ b1; have _ := b1.size; obtain ⟨_, _⟩ := pack1 b1 e0; obtain ⟨_, _⟩ := pack1 b1 e1; obtain ⟨_, _⟩ := pack1 b1 e2; (first | (have VZ := VZ.on b1') | (with_reducible have VZ := var_on b1') | (with_reducible have VZ := var_on_d b1') | skip); (try (have t0 := VZ.trip.c0; have t1 := VZ.trip.c1; have t2 := VZ.trip.c2; have tf0 := VZ.trip.fr 0; have tf1 := VZ.trip.fr 1; have tf2 := VZ.trip.fr 2))) | (go_at_call 20; (with_reducible refine (HC'.out u1 d2 v1 cp2 rs1 k2.rws 2097152 1048576 g1 (by omega) (by omega) kk1 (KM2.out g1 (by with_reducible assumption))).mono ?_); rintro e g2 ⟨u2, v2, rs2, rfl, kk2, hU2, b2'⟩; have b2 : Below q2.heap.size q2 g2 := Below.step (by with_reducible assumption) b2'; have _ := belowZ b2; have _ := b2.size; obtain ⟨_, _⟩ := pack1 b2 e0; obtain ⟨_, _⟩ := pack1 b2 e1; obtain ⟨_, _⟩ := pack1 b2 e2; (first | (have VZ := VZ.on b2') | (with_reducible have VZ := var_on b2') | (with_reducible have VZ := var_on_d b2') | skip); (try (have t0 := VZ.trip.c0; have t1 := VZ.trip.c1; have t2 := VZ.trip.c2; have tf0 := VZ.trip.fr 0; have tf1 := VZ.trip.fr 1; have tf2 := VZ.trip.fr 2))) | (go_at_call 20; (with_reducible refine (HC'.out u1 d2 v1 cp2 rs1 k2.rws 2097152 1048576 (g1.alloc ZO) (by omega) (by omega) (kk1.now ((Below.refl _ _).alloc (Nat.le_refl _) _)) (KM2.out (g1.alloc ZO) (by with_reducible assumption))).mono ?_); rintro e g2 ⟨u2, v2, rs2, rfl, kk2, hU2, b2'⟩; have b2 : Below q2.heap.size q2 g2 := Below.step (by with_reducible assumption) b2'; have _ := belowZ b2; have _ := b2.size; obtain ⟨_, _⟩ := pack1 b2 e0; obtain ⟨_, _⟩ := pack1 b2 e1; obtain ⟨_, _⟩ := pack1 b2 e2; (first | (have VZ := VZ.on b2') | (with_reducible have VZ := var_on b2') | (with_reducible have VZ := var_on_d b2') | skip); (try (have t0 := VZ.trip.c0; have t1 := VZ.trip.c1; have t2 := VZ.trip.c2; have tf0 := VZ.trip.fr 0; have tf1 := VZ.trip.fr 1; have tf2 := VZ.trip.fr 2))) | (go_at_call 13; (with_reducible refine (read_cx' (w := g2) kk2 (by omega)).mono ?_); rintro e g3 ⟨r1, r2, r3, rfl, hrA, hoff, b3'⟩; (first | (have hro := hoff _ VZ.trip.lt) | skip); have b3 : Below q2.heap.size q2 g3 := Below.step (by with_reducible assumption) b3'; have _ := belowZ b3; have _ := b3.size; obtain ⟨_, _⟩ := pack1 b3 e0; obtain ⟨_, _⟩ := pack1 b3 e1; obtain ⟨_, _⟩ := pack1 b3 e2; (first | (have VZ := VZ.on b3') | (with_reducible have VZ := var_on b3') | (with_reducible have VZ := var_on_d b3') | skip); (try (have t0 := VZ.trip.c0; have t1 := VZ.trip.c1; have t2 := VZ.trip.c2; have tf0 := VZ.trip.fr 0; have tf1 := VZ.trip.fr 1; have tf2 := VZ.trip.fr 2))) | (go_at_call 13; (with_reducible refine (read_cx' (w := (g2.alloc ZO)) (kk2.now ((Below.refl _ _).alloc (Nat.le_refl _) _)) (by omega)).mono ?_); rintro e g3 ⟨r1, r2, r3, rfl, hrA, hoff, b3'⟩; have hro := hoff _ (var_new g2).trip.lt; have b3 : Below q2.heap.size q2 g3 := Below.step (by with_reducible assumption) b3'; have _ := belowZ b3; have _ := b3.size; obtain ⟨_, _⟩ := pack1 b3 e0; obtain ⟨_, _⟩ := pack1 b3 e1; obtain ⟨_, _⟩ := pack1 b3 e2; (first | (have VZ := VZ.on b3') | (with_reducible have VZ := var_on b3') | (with_reducible have VZ := var_on_d b3') | skip); (try (have t0 := VZ.trip.c0; have t1 := VZ.trip.c1; have t2 := VZ.trip.c2; have tf0 := VZ.trip.fr 0; have tf1 := VZ.trip.fr 1; have tf2 := VZ.trip.fr 2))))
                    all_goals
                      have hp : (fun r => ∀ a x t, Top k2.lst a t → (has r a x ↔ (has k0.lst a x ∨ has k1.lst a x) ∧ x ≤ t)) (rs2.map Rw.rn) := (fun a x t ht => by rw [hU2 a t ht x, hU1 a x]; exact Iff.rfl)
                      first
                        | (have HR : Hid (Res (fun r => ∀ a x t, Top k2.lst a t → (has r a x ↔ (has k0.lst a x ∨ has k1.lst a x) ∧ x ≤ t)) 2097152 q2 (.pointer (some ⟨g3.heap.size, 0, none⟩)) (g3.alloc (cxOf r1 r2 r3 rs2).obj)) := res_last hrA (fun _ _ _ => cxOf_good kk2 (by omega) _ _ _) hp b3
                           go_wp2_with fail
                           go_meet
                           case rel => exact HR.out)
                        | (have HR := res_early (p := fun r => ∀ a x t, Top k2.lst a t → (has r a x ↔ (has k0.lst a x ∨ has k1.lst a x) ∧ x ≤ t)) hrA (fun _ _ _ => cxOf_good kk2 (by omega) _ _ _) hp b3 VZ (by first | exact b1.size | exact b2.size | exact Nat.le_refl _) hro
                           have HR : Hid _ := HR
                           go_wp2_with fail
                           go_meet
                           case rel => exact HR.out)
                  case rest =>
                    obtain ⟨l1', l2', l3', ls, gl, rfl, hbl, hlA, hlG, hpl, bl⟩ := hcut
                    obtain ⟨w7, hw7⟩ : ∃ x, x = wc := ⟨_, rfl⟩
                    subst hw7
                    have e0 := (pack1 bl e0).1
                    have l0 : p0.heap.size < w7.heap.size := World.block_lt_of_cell? _ _ e0
                    have T0 : Hid (Trip w7 y0.heap.size (.slice k0.a1 k0.n k0.c1) (.slice k0.a2 k0.n k0.c2) (.slice k0.a3 k0.n k0.c3)) := T0.out.on bl T0.out.lt
                    have KA0 : Hid (k0.At w7) := KA0.out.now bl
                    have M0 : Hid (CtxR w7 d0 cp0 k0.rws 1048576) := M0.out.now bl
                    have e1 := (pack1 bl e1).1
                    have l1 : p1.heap.size < w7.heap.size := World.block_lt_of_cell? _ _ e1
                    have T1 : Hid (Trip w7 y1.heap.size (.slice k1.a1 k1.n k1.c1) (.slice k1.a2 k1.n k1.c2) (.slice k1.a3 k1.n k1.c3)) := T1.out.on bl T1.out.lt
                    have KA1 : Hid (k1.At w7) := KA1.out.now bl
                    have M1 : Hid (CtxR w7 d1 cp1 k1.rws 1048576) := M1.out.now bl
                    have e2 := (pack1 bl e2).1
                    have l2 : p2.heap.size < w7.heap.size := World.block_lt_of_cell? _ _ e2
                    have T2 : Hid (Trip w7 y2.heap.size (.slice k2.a1 k2.n k2.c1) (.slice k2.a2 k2.n k2.c2) (.slice k2.a3 k2.n k2.c3)) := T2.out.on bl T2.out.lt
                    have KA2 : Hid (k2.At w7) := KA2.out.now bl
                    have M2 : Hid (CtxR w7 d2 cp2 k2.rws 1048576) := M2.out.now bl
                    have BQ7 : Hid (Below w.heap.size w w7) := Below.step BQ.out bl
                    have HBL : Hid (Cx.Box (cxOf l1' l2' l3' ls) w7 gl) := hbl
                    have HLA : Hid ((cxOf l1' l2' l3' ls).At w7) := hlA
                    have HLG : Hid ((cxOf l1' l2' l3' ls).Good 2097152) := hlG
                    have HPL : Hid (∀ a x t, Top k2.lst a t → (has (ls.map Rw.rn) a x ↔ (has k0.lst a x ∨ has k1.lst a x) ∧ x ≤ t)) := hpl
                    clear hbl hlA hlG hpl bl
                    go_upto_region 19 with fail
                    go_cut [27] (fun v wx => Res (fun r => ∀ a x t, Top k2.lst a t → (has r a x ↔ (has k0.lst a x ∨ has k1.lst a x) ∧ x ≤ t)) 2097152 w7 v wx)
                    case first =>
                      obtain ⟨_, _⟩ := pack1 (Below.refl w7.heap.size w7) e0
                      obtain ⟨_, _⟩ := pack1 (Below.refl w7.heap.size w7) e1
                      obtain ⟨_, _⟩ := pack1 (Below.refl w7.heap.size w7) e2
                      obtain ⟨_, _⟩ := pack1 (Below.drew (Below.refl w7.heap.size w7)) e0
                      obtain ⟨_, _⟩ := pack1 (Below.drew (Below.refl w7.heap.size w7)) e1
                      obtain ⟨_, _⟩ := pack1 (Below.drew (Below.refl w7.heap.size w7)) e2
                      have _ : (w7.alloc ZO).drew.cell? ⟨p0.heap.size, 0, none⟩ = some (.slice d0 k0.rws.length cp0) := alloc_cell e0 _
                      have _ : (w7.alloc ZO).drew.cell? ⟨p1.heap.size, 0, none⟩ = some (.slice d1 k1.rws.length cp1) := alloc_cell e1 _
                      have _ : (w7.alloc ZO).drew.cell? ⟨p2.heap.size, 0, none⟩ = some (.slice d2 k2.rws.length cp2) := alloc_cell e2 _
                      have _ : Below w7.heap.size w7 w7.drew := Below.drew (Below.refl _ _)
                      have _ : Below w7.heap.size w7 (w7.alloc ZO).drew := Below.drew (belowZ (Below.refl _ _))
                      have _ : Below w7.heap.size w7 (w7.drew.alloc ZO) := belowZ (Below.drew (Below.refl _ _))
                      have KM0 : Hid (∀ w', Below w7.heap.size w7 w' → CtxR w' d0 cp0 k0.rws 1048576) := fun w' hb => M0.out.now hb
                      have KM1 : Hid (∀ w', Below w7.heap.size w7 w' → CtxR w' d1 cp1 k1.rws 1048576) := fun w' hb => M1.out.now hb
                      have KM2 : Hid (∀ w', Below w7.heap.size w7 w' → CtxR w' d2 cp2 k2.rws 1048576) := fun w' hb => M2.out.now hb
                      go_region_held (fun w' => w'.cell? ⟨p0.heap.size, 0, none⟩ = some (.slice d0 k0.rws.length cp0) ∧ w'.cell? ⟨p1.heap.size, 0, none⟩ = some (.slice d1 k1.rws.length cp1) ∧ w'.cell? ⟨p2.heap.size, 0, none⟩ = some (.slice d2 k2.rws.length cp2)) (first | (with_reducible exact ⟨by assumption, by assumption, by assumption⟩) | (with_reducible exact ⟨far3 (by assumption) (by simp only; omega) _ _ _, far3 (by assumption) (by simp only; omega) _ _ _, far3 (by assumption) (by simp only; omega) _ _ _⟩) | (with_reducible exact ⟨alloc_cell (by assumption) _, alloc_cell (by assumption) _, alloc_cell (by assumption) _⟩)) (first | (go_at_call 20; (with_reducible refine (HC'.out d0 d2 cp0 cp2 k0.rws k2.rws 1048576 1048576 _ (by omega) (by omega) (KM0.out _ (by with_reducible assumption)) (KM2.out _ (by with_reducible assumption))).mono ?_); rintro e gA ⟨uA, vA, rsA, rfl, kkA, hUA, bA'⟩; (try have kkB : CtxR gA uB vB rsB 1048576 := (by first | (with_reducible exact kkB.now bA') | (with_reducible exact (kkB.now ((Below.refl _ _).alloc (Nat.le_refl _) _)).now bA'))); have bA : Below w7.heap.size w7 gA := Below.step (by with_reducible assumption) bA'; have _ := belowZ bA; have _ := bA.size; obtain ⟨_, _⟩ := pack1 bA e0; obtain ⟨_, _⟩ := pack1 bA e1; obtain ⟨_, _⟩ := pack1 bA e2; (first | (have VZ := VZ.on bA') | (with_reducible have VZ := var_on bA') | (with_reducible have VZ := var_on_d bA') | skip); (try (have t0 := VZ.trip.c0; have t1 := VZ.trip.c1; have t2 := VZ.trip.c2; have tf0 := VZ.trip.fr 0; have tf1 := VZ.trip.fr 1; have tf2 := VZ.trip.fr 2))) | (go_at_call 20; (with_reducible refine (HC'.out d1 d2 cp1 cp2 k1.rws k2.rws 1048576 1048576 _ (by omega) (by omega) (KM1.out _ (by with_reducible assumption)) (KM2.out _ (by with_reducible assumption))).mono ?_); rintro e gB ⟨uB, vB, rsB, rfl, kkB, hUB, bB'⟩; (try have kkA : CtxR gB uA vA rsA 1048576 := (by first | (with_reducible exact kkA.now bB') | (with_reducible exact (kkA.now ((Below.refl _ _).alloc (Nat.le_refl _) _)).now bB'))); have bB : Below w7.heap.size w7 gB := Below.step (by with_reducible assumption) bB'; have _ := belowZ bB; have _ := bB.size; obtain ⟨_, _⟩ := pack1 bB e0; obtain ⟨_, _⟩ := pack1 bB e1; obtain ⟨_, _⟩ := pack1 bB e2; (first | (have VZ := VZ.on bB') | (with_reducible have VZ := var_on bB') | (with_reducible have VZ := var_on_d bB') | skip); (try (have t0 := VZ.trip.c0; have t1 := VZ.trip.c1; have t2 := VZ.trip.c2; have tf0 := VZ.trip.fr 0; have tf1 := VZ.trip.fr 1; have tf2 := VZ.trip.fr 2))) | (go_at_call 15; (with_reducible refine (HJ'.out uA uB vA vB rsA rsB 1048576 1048576 _ (by omega) (by first | (with_reducible exact kkA) | (with_reducible exact kkA.now ((Below.refl _ _).alloc (Nat.le_refl _) _))) (by first | (with_reducible exact kkB) | (with_reducible exact kkB.now ((Below.refl _ _).alloc (Nat.le_refl _) _)))).mono ?_); rintro e g2 ⟨u2, v2, rs2, rfl, kk2, hU2, b2'⟩; have b2 : Below w7.heap.size w7 g2 := Below.step (by with_reducible assumption) b2'; have _ := belowZ b2; have _ := b2.size; obtain ⟨_, _⟩ := pack1 b2 e0; obtain ⟨_, _⟩ := pack1 b2 e1; obtain ⟨_, _⟩ := pack1 b2 e2; (first | (have VZ := VZ.on b2') | (with_reducible have VZ := var_on b2') | (with_reducible have VZ := var_on_d b2') | skip); (try (have t0 := VZ.trip.c0; have t1 := VZ.trip.c1; have t2 := VZ.trip.c2; have tf0 := VZ.trip.fr 0; have tf1 := VZ.trip.fr 1; have tf2 := VZ.trip.fr 2))) | (go_at_call 13; (with_reducible refine (read_cx' (w := g2) kk2 (by omega)).mono ?_); rintro e g3 ⟨r1, r2, r3, rfl, hrA, hoff, b3'⟩; (first | (have hro := hoff _ VZ.trip.lt) | skip); have b3 : Below w7.heap.size w7 g3 := Below.step (by with_reducible assumption) b3'; have _ := belowZ b3; have _ := b3.size; obtain ⟨_, _⟩ := pack1 b3 e0; obtain ⟨_, _⟩ := pack1 b3 e1; obtain ⟨_, _⟩ := pack1 b3 e2; (first | (have VZ := VZ.on b3') | (with_reducible have VZ := var_on b3') | (with_reducible have VZ := var_on_d b3') | skip); (try (have t0 := VZ.trip.c0; have t1 := VZ.trip.c1; have t2 := VZ.trip.c2; have tf0 := VZ.trip.fr 0; have tf1 := VZ.trip.fr 1; have tf2 := VZ.trip.fr 2))) | (go_at_call 13; (with_reducible refine (read_cx' (w := (g2.alloc ZO)) (kk2.now ((Below.refl _ _).alloc (Nat.le_refl _) _)) (by omega)).mono ?_); rintro e g3 ⟨r1, r2, r3, rfl, hrA, hoff, b3'⟩; have hro := hoff _ (var_new g2).trip.lt; have b3 : Below w7.heap.size w7 g3 := Below.step (by with_reducible assumption) b3'; have _ := belowZ b3; have _ := b3.size; obtain ⟨_, _⟩ := pack1 b3 e0; obtain ⟨_, _⟩ := pack1 b3 e1; obtain ⟨_, _⟩ := pack1 b3 e2; (first | (have VZ := VZ.on b3') | (with_reducible have VZ := var_on b3') | (with_reducible have VZ := var_on_d b3') | skip); (try (have t0 := VZ.trip.c0; have t1 := VZ.trip.c1; have t2 := VZ.trip.c2; have tf0 := VZ.trip.fr 0; have tf1 := VZ.trip.fr 1; have tf2 := VZ.trip.fr 2))))
                      all_goals
                        have hp : (fun r => ∀ a x t, Top k2.lst a t → (has r a x ↔ (has k0.lst a x ∨ has k1.lst a x) ∧ x ≤ t)) (rs2.map Rw.rn) := (fun a x t ht => by rw [hU2 a x, hUA a t ht x, hUB a t ht x]; exact ⟨fun h => by rcases h with h | h; exact ⟨Or.inl h.1, h.2⟩; exact ⟨Or.inr h.1, h.2⟩, fun h => by rcases h with ⟨h | h, hx⟩; exact Or.inl ⟨h, hx⟩; exact Or.inr ⟨h, hx⟩⟩)
                        first
                          | (have HR : Hid (Res (fun r => ∀ a x t, Top k2.lst a t → (has r a x ↔ (has k0.lst a x ∨ has k1.lst a x) ∧ x ≤ t)) 2097152 w7 (.pointer (some ⟨g3.heap.size, 0, none⟩)) (g3.alloc (cxOf r1 r2 r3 rs2).obj)) := res_last hrA (fun _ _ _ => cxOf_good kk2 (by omega) _ _ _) hp b3
                             go_wp2_with fail
                             go_meet
                             case rel => exact HR.out)
                          | (have HR := res_early (p := fun r => ∀ a x t, Top k2.lst a t → (has r a x ↔ (has k0.lst a x ∨ has k1.lst a x) ∧ x ≤ t)) hrA (fun _ _ _ => cxOf_good kk2 (by omega) _ _ _) hp b3 VZ (by first | exact bA.size | exact bB.size | exact b2.size | exact Nat.le_refl _) hro
                             have HR : Hid _ := HR
                             go_wp2_with fail
                             go_meet
                             case rel => exact HR.out)
                    case rest =>
                      obtain ⟨r1', r2', r3', rs, gr, rfl, hbr, hrA, hrG, hpr, br⟩ := hcut
                      obtain ⟨w8, hw8⟩ : ∃ x, x = wc := ⟨_, rfl⟩
                      subst hw8
                      have T0 : Hid (Trip w8 y0.heap.size (.slice k0.a1 k0.n k0.c1) (.slice k0.a2 k0.n k0.c2) (.slice k0.a3 k0.n k0.c3)) := T0.out.on br T0.out.lt
                      have KA0 : Hid (k0.At w8) := KA0.out.now br
                      have T1 : Hid (Trip w8 y1.heap.size (.slice k1.a1 k1.n k1.c1) (.slice k1.a2 k1.n k1.c2) (.slice k1.a3 k1.n k1.c3)) := T1.out.on br T1.out.lt
                      have KA1 : Hid (k1.At w8) := KA1.out.now br
                      have T2 : Hid (Trip w8 y2.heap.size (.slice k2.a1 k2.n k2.c1) (.slice k2.a2 k2.n k2.c2) (.slice k2.a3 k2.n k2.c3)) := T2.out.on br T2.out.lt
                      have KA2 : Hid (k2.At w8) := KA2.out.now br
                      have BQ8 : Hid (Below w.heap.size w w8) := Below.step BQ7.out br
                      have he : ls.map Rw.rn = rs.map Rw.rn := valid_ext (by have := HLG.out.valid; rwa [cxOf_lst] at this) (by have := hrG.valid; rwa [cxOf_lst] at this) (fun a x => by obtain ⟨t, ht⟩ := top_ex k2.lst a; exact (HPL.out a x t ht).trans (hpr a x t ht).symm)
                      have HSM : Hid (∀ w, (cxOf l1' l2' l3' ls).At w → (cxOf r1' r2' r3' rs).At w → Calls Try.prog 18 #[(cxOf l1' l2' l3' ls).val, (cxOf r1' r2' r3' rs).val] w (fun e w' => Said true w w' e)) := fun w a b => same_cx he HLG.out w a b
                      have HX : Hid (∀ a x m, k2.Last a m → ((cxOf l1' l2' l3' ls).Has a x ↔ (k0.Has a x ∨ k1.Has a x) ∧ x ≤ m)) := fun a x m hm => by rw [cxOf_has, k0.has_lst, k1.has_lst]; exact HPL.out a x m (last_top hm)
                      have HBL8 := HBL.out.on br HBL.out.lt
                      have HLA8 := HLA.out.now br
                      obtain ⟨Lx, hLx⟩ : ∃ z, z = cxOf l1' l2' l3' ls := ⟨_, rfl⟩
                      obtain ⟨Rx, hRx⟩ : ∃ z, z = cxOf r1' r2' r3' rs := ⟨_, rfl⟩
                      have HLG8 := HLG.out
                      rw [← hLx] at HBL8 HLA8 HLG8 HX HSM
                      rw [← hRx] at hbr hrA HSM
                      have BL : Hid (Lx.Box w8 gl) := HBL8
                      have BR : Hid (Rx.Box w8 gr) := hbr
                      have LA : Hid (Lx.At w8) := HLA8
                      have RA : Hid (Rx.At w8) := hrA
                      have LG : Hid (Lx.Good 2097152) := HLG8
                      have OK : Hid (Lx.OK 2097152 ∧ k0.OK 2097152 ∧ k1.OK 2097152 ∧ k2.OK 2097152) := ⟨HLG8.ok, (KG0.out.mono (by omega) (by omega)).ok, (KG1.out.mono (by omega) (by omega)).ok, (KG2.out.mono (by omega) (by omega)).ok⟩
                      clear HBL8 hbr HLA8 hrA HLG8 he hLx hRx hrG hpr br HBL HLA HLG HPL e0 e1 e2 l0 l1 l2 M0 M1 M2 HJ' HC'
                      obtain ⟨f0, f1, f2, ff, fl⟩ := BL.out
                      clear ff
                      go_wp2_with fail
                      refine (valid_cx Lx LG.out _ LA.out).mono ?_
                      rintro e x1 ⟨rfl, c1⟩
                      clear f0 f1 f2 fl
                      obtain ⟨f0, f1, f2, ff, fl⟩ := BL.out.on c1 BL.out.lt
                      obtain ⟨g0, g1, g2, gf, gl'⟩ := BR.out.on c1 BR.out.lt
                      clear ff gf
                      go_wp2_with fail
                      refine (HSM.out _ (LA.out.now c1) (RA.out.now c1)).mono ?_
                      rintro e x2 ⟨rfl, c2⟩
                      clear f0 f1 f2 fl g0 g1 g2 gl'
                      have C0 : Hid (Below w8.heap.size w8 x2) := Below.step c1 c2
                      clear c1 c2
                      obtain ⟨f0, f1, f2, ff, fl⟩ := BL.out.on C0.out BL.out.lt
                      obtain ⟨h00, h01, h02, h0f, h0l⟩ := T0.out.on C0.out T0.out.lt
                      obtain ⟨h10, h11, h12, h1f, h1l⟩ := T1.out.on C0.out T1.out.lt
                      obtain ⟨h20, h21, h22, h2f, h2l⟩ := T2.out.on C0.out T2.out.lt
                      clear ff h0f h1f h2f
                      go_wp2_with fail
                      refine (capA_f k0 Lx k0 k1 k2 2097152 x2 (by omega) OK.out.2.1 OK.out.1 OK.out.2.1 OK.out.2.2.1 OK.out.2.2.2 (KA0.out.now C0.out) (LA.out.now C0.out) (KA0.out.now C0.out) (KA1.out.now C0.out) (KA2.out.now C0.out) HX.out).mono ?_
                      rintro e u0x ⟨rfl, cn⟩
                      have C1 : Hid (Below w8.heap.size w8 u0x) := Below.step C0.out cn
                      clear f0 f1 f2 fl h00 h01 h02 h0l h10 h11 h12 h1l h20 h21 h22 h2l cn
                      obtain ⟨f0, f1, f2, ff, fl⟩ := BL.out.on C1.out BL.out.lt
                      obtain ⟨h00, h01, h02, h0f, h0l⟩ := T0.out.on C1.out T0.out.lt
                      obtain ⟨h10, h11, h12, h1f, h1l⟩ := T1.out.on C1.out T1.out.lt
                      obtain ⟨h20, h21, h22, h2f, h2l⟩ := T2.out.on C1.out T2.out.lt
                      clear ff h0f h1f h2f
                      go_wp2_with fail
                      refine (capA_f k1 Lx k0 k1 k2 2097152 u0x (by omega) OK.out.2.2.1 OK.out.1 OK.out.2.1 OK.out.2.2.1 OK.out.2.2.2 (KA1.out.now C1.out) (LA.out.now C1.out) (KA0.out.now C1.out) (KA1.out.now C1.out) (KA2.out.now C1.out) HX.out).mono ?_
                      rintro e u1x ⟨rfl, cn⟩
                      have C2 : Hid (Below w8.heap.size w8 u1x) := Below.step C1.out cn
                      clear f0 f1 f2 fl h00 h01 h02 h0l h10 h11 h12 h1l h20 h21 h22 h2l cn
                      obtain ⟨f0, f1, f2, ff, fl⟩ := BL.out.on C2.out BL.out.lt
                      obtain ⟨h00, h01, h02, h0f, h0l⟩ := T0.out.on C2.out T0.out.lt
                      obtain ⟨h10, h11, h12, h1f, h1l⟩ := T1.out.on C2.out T1.out.lt
                      obtain ⟨h20, h21, h22, h2f, h2l⟩ := T2.out.on C2.out T2.out.lt
                      clear ff h0f h1f h2f
                      go_wp2_with fail
                      refine (capA_f Lx Lx k0 k1 k2 2097152 u1x (by omega) OK.out.1 OK.out.1 OK.out.2.1 OK.out.2.2.1 OK.out.2.2.2 (LA.out.now C2.out) (LA.out.now C2.out) (KA0.out.now C2.out) (KA1.out.now C2.out) (KA2.out.now C2.out) HX.out).mono ?_
                      rintro e u2x ⟨rfl, cn⟩
                      have C3 : Hid (Below w8.heap.size w8 u2x) := Below.step C2.out cn
                      clear f0 f1 f2 fl h00 h01 h02 h0l h10 h11 h12 h1l h20 h21 h22 h2l cn
                      have BF : Hid (Below w.heap.size w u2x) := Below.step BQ8.out C3.out
                      go_wp2_with fail
                      go_ret
                      exact ⟨rfl, BF.out⟩
end Go.Proofs.Qxb6620807a
