import Derived.Test.Qxb6620807aCapP5
import Derived.Deep.CutBlock
namespace Go.Proofs.Qxb6620807a
open Go.RowKit
set_option linter.unusedVariables false

theorem neq_nil {P : Program} (w : World) (t e : TypeId) (a : Option Addr) (n c : Nat) (h : P.underlying t = some (.slice e)) : (binOp .neq t (.slice a n c) (.slice none 0 0)).run P w = .ok (.bool (!a.isNone)) w := by
  simp only [binOp]
  simp [Op.equal, Op.maxDepth, Lib.run_equalIn_slice_nil w 9999 t e a n c 0 0 h]
theorem below_drawn {w wy : World} {q : Nat} (hy : wy = w.drewN q) {B : Nat} {w1 : World} (h : Below B w1 w) : Below B w1 wy := by subst hy; exact below_drewN h q
set_option maxRecDepth 100000 in
set_option maxHeartbeats 4000000 in
theorem capBy_f (a b : Option Addr) (c d : Nat) (ts us : List Rw) (N1 N2 : Nat) (w : World) (hN : N1 ≤ 4194304) (hN2 : N2 ≤ 4194304) (h1 : CtxR w a c ts N1) (h2 : CtxR w b d us N2) :
    Calls Try.prog 20 #[.agg #[.slice a ts.length c], .agg #[.slice b us.length d]] w (fun e w' => GaveC (IsCut (ts.map Rw.rn) (us.map Rw.rn)) N1 w w' e) := by
  obtain ⟨i0, hi0, hz0, hz1, hz2⟩ := info_parts Try.info54
  obtain ⟨w1, hw1, hsz1, hb1, k0, k1, k2, kf⟩ := box1s w (.slice a ts.length c) (.slice b us.length d) (.slice none 0 0)
  have l1 := h1.len
  have l2 := h2.len
  have H1 : Hid (CtxR w a c ts N1) := h1
  have H2 : Hid (CtxR w b d us N2) := h2
  obtain ⟨n, hn⟩ : ∃ n, n = ts.length := ⟨_, rfl⟩
  obtain ⟨m, hm⟩ : ∃ m, m = us.length := ⟨_, rfl⟩
  have HN : Hid (n = ts.length) := hn
  have HM : Hid (m = us.length) := hm
  rw [← hn] at l1 k0 hw1
  rw [← hm] at l2 k1 hw1
  rw [← hn, ← hm]
  have HS : Hid (CapState (us.map Rw.rn) [] [] (ts.map Rw.rn)) := CapState.start h1.valid
  have HB1 : Hid (Below w.heap.size w w1) := hb1
  have HZ : Hid (w1.heap.size = w.heap.size + 3) := hsz1
  have HK : Hid (w1.cell? ⟨w.heap.size, 0, none⟩ = some (.slice a n c) ∧ w1.cell? ⟨w.heap.size + 1, 0, none⟩ = some (.slice b m d) ∧ w1.cell? ⟨w.heap.size + 1 + 1, 0, none⟩ = some (.slice none 0 0) ∧ w1.frozen? ⟨w.heap.size + 1 + 1, 0, none⟩ = false) := ⟨k0, k1, k2, kf⟩
  clear hn hm h1 h2 hb1 hsz1 k2 kf
  go_enter Try.func20, Try.ntmps20
  go_wp2_with fail
  clear hw1 k0 k1
  go_loopw [5, 6, 15] (fun v vj vi wr => ∃ (i j : Nat) (R : List Rw), vj = .int .i64 j ∧ vi = .int .i64 i ∧ CapAt w w1 wr ts us R v i j N1) (fun _ _ vi _ => n - (intOf vi).toNat)
  case atStart =>
    exact ⟨0, 0, [], rfl, rfl, by omega, by omega, Below.refl _ _, Or.inl ⟨rfl, by simp⟩, by simpa using HS.out, fun k hk h => absurd h (by omega)⟩
  case round =>
    obtain ⟨i, j, R, rfl, rfl, HR⟩ := hrel
    have HR : Hid (CapAt w w1 wr ts us R _ i j N1) := HR
    have hin : i ≤ n := by rw [HN.out]; exact HR.out.hi
    have hjm : j ≤ m := by rw [HM.out]; exact HR.out.hj
    have bw : Below w.heap.size w wr := Below.trans HB1.out (HR.out.below.mono (Nat.le_trans (by omega) (Nat.le_of_eq HZ.out.symm)))
    have HW : Hid (Below w.heap.size w wr) := bw
    have c0 : wr.cell? ⟨w.heap.size, 0, none⟩ = some (.slice a n c) := by rw [HR.out.below.cell (p := ⟨w.heap.size, 0, none⟩) (by rw [HZ.out]; simp only; omega)]; exact HK.out.1
    have c1 : wr.cell? ⟨w.heap.size + 1, 0, none⟩ = some (.slice b m d) := by rw [HR.out.below.cell (p := ⟨w.heap.size + 1, 0, none⟩) (by rw [HZ.out]; simp only; omega)]; exact HK.out.2.1
    have c2 : wr.cell? ⟨w.heap.size + 1 + 1, 0, none⟩ = some (.slice none 0 0) := by rw [HR.out.below.cell (p := ⟨w.heap.size + 1 + 1, 0, none⟩) (by rw [HZ.out]; simp only; omega)]; exact HK.out.2.2.1
    have c2f : wr.frozen? ⟨w.heap.size + 1 + 1, 0, none⟩ = false := by rw [HR.out.below.frozen (p := ⟨w.heap.size + 1 + 1, 0, none⟩) (by rw [HZ.out]; simp only; omega)]; exact HK.out.2.2.2
    clear bw
    by_cases hlt : i < n
    · have hi' : i < ts.length := by rw [← HN.out]; exact hlt
      obtain ⟨b1, o1, rfl, lb1, at1⟩ := H1.out.at3 (by omega)
      obtain ⟨p0, p1, p2⟩ := (at1 i hi').on HW.out lb1
      have HRi : Hid (RunAt w ts[i].u ts[i].a ts[i].c ts[i].X ∧ ts[i].X.length ≤ N1) := ⟨H1.out.each _ (List.getElem_mem _), H1.out.bnd _ (List.getElem_mem _)⟩
      obtain ⟨r, hr⟩ : ∃ r, r = ts[i] := ⟨_, rfl⟩
      have HEr : Hid (r = ts[i]) := hr
      rw [← hr] at p0 p1 p2 HRi
      have lin : (i : Int) < n := by omega
      obtain ⟨wA, hwA⟩ : ∃ x, wr.alloc (.cells #[.string r.s, .int .u64 r.u, .slice r.a r.X.length r.c] 54) = x := ⟨_, rfl⟩
      have TA : Trip wA wr.heap.size (.string r.s) (.int .u64 r.u) (.slice r.a r.X.length r.c) := by rw [← hwA]; exact trip _ _ _ _ _
      have bA : Below wr.heap.size wr wA := by rw [← hwA]; exact (Below.refl _ _).alloc (Nat.le_refl _) _
      have HPA : Hid (∀ k (hk : k < us.length), k < j → slt us[k].s.toList r.s.toList) := fun k hk hkj => HR.out.past k hk hkj r (by rw [drop_at hi', ← hr]; exact List.mem_cons_self)
      clear hr at1
      go_upto_block 2 with fail
      have HTA : Hid (Trip wA wr.heap.size (.string r.s) (.int .u64 r.u) (.slice r.a r.X.length r.c)) := TA
      have HbA : Hid (Below wr.heap.size wr wA) := bA
      have cA1 : wA.cell? ⟨w.heap.size + 1, 0, none⟩ = some (.slice b m d) := by rw [bA.cell (World.block_lt_of_cell? _ _ c1)]; exact c1
      have HWA : Hid (Below w.heap.size w wA) := Below.step HW.out bA
      have ta0 := TA.c0
      clear TA bA hwA p0 p1 p2
      go_cut [6] (fun vj wc => ∃ j' : Nat, vj = .int .i64 j' ∧ j ≤ j' ∧ j' ≤ m ∧ (∃ q, wc = wA.drewN q) ∧ Hid (∀ k (hk : k < us.length), k < j' → slt us[k].s.toList r.s.toList) ∧ Hid (∀ hk : j' < us.length, ¬ slt us[j'].s.toList r.s.toList))
      case first =>
        go_wp2_with fail
        go_loopw [6] (fun vj wx => ∃ j' : Nat, vj = .int .i64 j' ∧ j ≤ j' ∧ j' ≤ m ∧ (∃ q, wx = wA.drewN q) ∧ Hid (∀ k (hk : k < us.length), k < j' → slt us[k].s.toList r.s.toList)) (fun vj _ => m - (intOf vj).toNat)
        case atStart => exact ⟨j, rfl, Nat.le_refl _, hjm, ⟨0, rfl⟩, HPA⟩
        case round =>
          obtain ⟨j', rfl, hjj, hj'm, ⟨q, rfl⟩, HP⟩ := hrel
          by_cases hl : j' < m
          · have hk' : j' < us.length := by rw [← HM.out]; exact hl
            obtain ⟨b2, o2, rfl, lb2, at2⟩ := H2.out.at3 (by omega)
            obtain ⟨q0, _, _⟩ := (at2 j' hk').on HWA.out lb2
            clear at2
            have ljm : (j' : Int) < m := by omega
            cases hq : Op.bytesLess us[j'].s.toList r.s.toList with
            | true =>
              have HN2 : Hid (∀ k (hk : k < us.length), k < j' + 1 → slt us[k].s.toList r.s.toList) := fun k hk hkj => by
                by_cases e : k = j'
                · subst e; exact hq
                · exact HP.out k hk (by omega)
              go_wp2_with fail
              go_quiet (fail)
              go_wp2_with fail
              go_roundw
              case rel => exact ⟨j' + 1, by go_num, by omega, by omega, ⟨_, rfl⟩, HN2⟩
              case measure => simp only [intOf]; omega
            | false =>
              have HN2 : Hid (∀ hk : j' < us.length, ¬ slt us[j'].s.toList r.s.toList) := fun hk h => by unfold slt at h; rw [hq] at h; cases h
              go_wp2_with fail
              go_quiet (fail)
              go_wp2_with fail
              go_meet
              case rel => exact ⟨j', rfl, hjj, hj'm, ⟨_, World.drewN_drewN ..⟩, HP, HN2⟩
          · have HN2 : Hid (∀ hk : j' < us.length, ¬ slt us[j'].s.toList r.s.toList) := fun hk _ => absurd hk (by rw [← HM.out]; omega)
            go_wp2_with fail
            go_quiet (fail)
            go_wp2_with fail
            go_meet
            case rel => exact ⟨j', rfl, hjj, hj'm, ⟨_, World.drewN_drewN ..⟩, HP, HN2⟩
      case rest =>
        obtain ⟨j', rfl, hjj, hj'm, ⟨q, rfl⟩, HP, HNS⟩ := hcut
        obtain ⟨wB, hwB⟩ : ∃ x, x = wA.drewN q := ⟨_, rfl⟩
        rw [← hwB]
        have HTB : Hid (Trip wB wr.heap.size (.string r.s) (.int .u64 r.u) (.slice r.a r.X.length r.c)) := by unfold Hid; rw [hwB]; exact ⟨HTA.out.c0, HTA.out.c1, HTA.out.c2, HTA.out.fr, HTA.out.lt⟩
        have HbB : Hid (Below wr.heap.size wr wB) := by unfold Hid; exact below_drawn hwB HbA.out
        have HWB : Hid (Below w.heap.size w wB) := by unfold Hid; exact below_drawn hwB HWA.out
        clear hwB HTA HbA HWA cA1 ta0 HPA
        have cB1 : wB.cell? ⟨w.heap.size + 1, 0, none⟩ = some (.slice b m d) := by rw [HbB.out.cell (World.block_lt_of_cell? _ _ c1)]; exact c1
        have tb0 := HTB.out.c0
        go_upto_region 9 with fail
        go_cut [53] (fun vb wc => ∃ e : Bool, vb = .bool e ∧ (∃ q, wc = wB.drewN q) ∧ Hid (e = true → ∃ hk : j' < us.length, us[j'].s.toList = r.s.toList) ∧ Hid (e = false → ∀ hk : j' < us.length, us[j'].s.toList ≠ r.s.toList))
        case first =>
          by_cases hl : j' < m
          · have hk' : j' < us.length := by rw [← HM.out]; exact hl
            obtain ⟨b2, o2, rfl, lb2, at2⟩ := H2.out.at3 (by omega)
            obtain ⟨q0, _, _⟩ := (at2 j' hk').on HWB.out lb2
            clear at2
            have ljm : (j' : Int) < m := by omega
            cases hq : (us[j'].s.toList == r.s.toList) with
            | true =>
              have HE : Hid (∃ hk : j' < us.length, us[j'].s.toList = r.s.toList) := ⟨hk', by simpa using hq⟩
              go_wp2_with fail
              go_quiet (fail)
              go_wp2_with fail
              go_meet
              case rel => exact ⟨true, rfl, ⟨_, rfl⟩, fun _ => HE.out, fun h => by cases h⟩
            | false =>
              have HE : Hid (∀ hk : j' < us.length, us[j'].s.toList ≠ r.s.toList) := fun _ => by simpa using hq
              go_wp2_with fail
              go_quiet (fail)
              go_wp2_with fail
              go_meet
              case rel => exact ⟨false, rfl, ⟨_, rfl⟩, (fun h => by cases h), fun _ => HE.out⟩
          · have HE : Hid (∀ hk : j' < us.length, us[j'].s.toList ≠ r.s.toList) := fun hk _ => absurd hk (by rw [← HM.out]; omega)
            go_wp2_with fail
            go_quiet (fail)
            go_wp2_with fail
            go_meet
            case rel => exact ⟨false, rfl, ⟨_, rfl⟩, (fun h => by cases h), fun _ => HE.out⟩
        case rest =>
          obtain ⟨eb, rfl, ⟨q2, rfl⟩, HE1, HE2⟩ := hcut
          obtain ⟨wC, hwC⟩ : ∃ x, x = wB.drewN q2 := ⟨_, rfl⟩
          rw [← hwC]
          have HTC : Hid (Trip wC wr.heap.size (.string r.s) (.int .u64 r.u) (.slice r.a r.X.length r.c)) := by unfold Hid; rw [hwC]; exact ⟨HTB.out.c0, HTB.out.c1, HTB.out.c2, HTB.out.fr, HTB.out.lt⟩
          have HbC : Hid (Below wr.heap.size wr wC) := by unfold Hid; exact below_drawn hwC HbB.out
          have HWC : Hid (Below w.heap.size w wC) := by unfold Hid; exact below_drawn hwC HWB.out
          clear hwC HTB HbB HWB cB1 tb0
          have cC1 : wC.cell? ⟨w.heap.size + 1, 0, none⟩ = some (.slice b m d) := by rw [HbC.out.cell (World.block_lt_of_cell? _ _ c1)]; exact c1
          go_upto_if 53 with fail
          go_cut [9] (fun vm wc => ∃ t : Int, vm = .int .u64 t ∧ Hid (Top (us.map Rw.rn) r.s.toList t) ∧ 0 ≤ t ∧ t ≤ 18446744073709551615 ∧ Below wC.heap.size wC wc)
          case first =>
            cases eb with
            | false =>
              have HT : Hid (Top (us.map Rw.rn) r.s.toList 0) := top_none H2.out.valid.1 HP.out (fun hk => ⟨HNS.out hk, HE2.out rfl hk⟩)
              go_wp2_with fail
              go_meet
              case rel => exact ⟨0, rfl, HT, by omega, by omega, Below.refl _ _⟩
            | true =>
              obtain ⟨hk', he⟩ := HE1.out rfl
              have HT : Hid (Top (us.map Rw.rn) r.s.toList (topR us[j'].u us[j'].X)) := top_some hk' he
              have hl : j' < m := by rw [HM.out]; exact hk'
              obtain ⟨b2, o2, rfl, lb2, at2⟩ := H2.out.at3 (by omega)
              obtain ⟨q0, q1, q2⟩ := (at2 j' hk').on HWC.out lb2
              have ljm : (j' : Int) < m := by omega
              have HRj : Hid (RunAt w us[j'].u us[j'].a us[j'].c us[j'].X) := H2.out.each _ (List.getElem_mem _)
              have htin := topR_in HRj.out.ok
              clear at2 he
              generalize us[j'] = t at *
              obtain ⟨lt, hlt⟩ : ∃ x, x = topR t.u t.X := ⟨_, rfl⟩
              have HLT : Hid (lt = topR t.u t.X) := hlt
              rw [← hlt] at HT htin
              clear hlt
              go_wp2_with fail
              refine (last_r t.s (HRj.out.now HWC.out) lt HLT.out).mono ?_
              rintro e wl ⟨rfl, bl⟩
              go_wp2_with fail
              go_meet
              case rel => exact ⟨lt, rfl, HT, htin.1, htin.2, bl⟩
          case rest =>
            obtain ⟨t, rfl, HT, ht0, ht1, bD⟩ := hcut
            have HTD : Hid (Trip wc wr.heap.size (.string r.s) (.int .u64 r.u) (.slice r.a r.X.length r.c)) := HTC.out.on bD HTC.out.lt
            have HbD : Hid (Below wr.heap.size wr wc) := Below.step HbC.out bD
            have HWD : Hid (Below w.heap.size w wc) := Below.step HWC.out bD
            clear HTC HbC HWC cC1 bD
            obtain ⟨L, hL⟩ : ∃ x, x = topR r.u r.X := ⟨_, rfl⟩
            have HL : Hid (L = topR r.u r.X) := hL
            clear hL
            have td0 := HTD.out.c0
            have td1 := HTD.out.c1
            have td2 := HTD.out.c2
            go_wp2_with fail
            refine (last_r r.s (HRi.out.1.now HWD.out) L HL.out).mono ?_
            rintro e wE ⟨rfl, bE⟩
            have HTE : Hid (Trip wE wr.heap.size (.string r.s) (.int .u64 r.u) (.slice r.a r.X.length r.c)) := HTD.out.on bE HTD.out.lt
            have HbE : Hid (Below wr.heap.size wr wE) := Below.step HbD.out bE
            have HWE : Hid (Below w.heap.size w wE) := Below.step HWD.out bE
            have HCE : Hid (CapAt w w1 wE ts us R u5 i j N1) := HR.out.now HbE.out
            have HJ : Hid (j' ≤ us.length) := by unfold Hid; rw [← HM.out]; exact hj'm
            clear td0 td1 td2 HTD HbD HWD bE
            have HNE : Hid (r.u = 0 → r.X ≠ []) := by unfold Hid; rw [HEr.out]; exact (H1.out.valid.2 ts[i].rn (List.mem_map.2 ⟨_, List.getElem_mem _, rfl⟩)).2
            have hlo : Hid (w.heap.size ≤ w1.heap.size) := HB1.out.size
            by_cases hle : L ≤ t
            · rcases HCE.out.row with ⟨hv, hR⟩ | ⟨g, hv, hg, hmk, hRi⟩
              · subst hv
                subst hR
                have HF : Hid (CapAt w w1 wE ts us (ts.take (i + 1)) (.slice none 0 0) (i + 1) j' N1) := by
                  have e := HEr.out
                  subst e
                  exact HCE.out.keepNil (Below.refl _ _) hi' H2.out.valid.1 HT.out (by rw [← HL.out]; exact hle) HJ.out HP.out
                have hnil := fun w => neq_nil (P := Try.prog) w 33 54 none 0 0 Try.underlying33
                go_wp2_with fail
                go_roundw
                case rel => exact ⟨i + 1, j', ts.take (i + 1), rfl, by go_num, HF.out⟩
                case measure => simp only [intOf]; omega
              · have hown := hmk.own
                rw [← HN.out] at hv hown
                subst hv
                have te0 := HTE.out.c0
                have te1 := HTE.out.c1
                have te2 := HTE.out.c2
                clear hmk
                have hnil := fun w => neq_nil (P := Try.prog) w 33 54 (some ⟨g, 0, none⟩) R.length n Try.underlying33
                go_wp2_with (at_builtin; refine wpList_append_own_spare _ rfl _ _ 33 rfl g 54 i0 3 Try.underlying33 hi0 hz1 g R.length n _ rfl (World.ownsRow.alloc hown _) ⟨wE.heap.size, 0, none⟩ 1 1 (rcell r.raw) rfl rfl (new3 _ _ _ _ _) (rcell_one _) (by omega) ?_)
                intro w' own' gr'
                have HF : Hid (CapAt w w1 w' ts us (R ++ [r]) (.slice (some ⟨g, 0, none⟩) (R.length + 1) n) (i + 1) j' N1) := by
                  have h := HCE.out
                  rw [HN.out] at h own' ⊢
                  have e := HEr.out
                  subst e
                  exact CapAt.one h hlo.out hi' H2.out.valid.1 HT.out ts[i] rfl HRi.out.1 HNE.out HRi.out.2 (whole_in HRi.out.1.ok (by rw [← HL.out]; exact hle)) HWE.out HJ.out HP.out gr' own'
                clear own' gr' hown te0 te1 te2 hnil
                go_wp2_with fail
                go_roundw
                case rel => exact ⟨i + 1, j', R ++ [r], rfl, by go_num, HF.out⟩
                case measure => simp only [intOf]; omega
            · have ht2 : t < 18446744073709551615 := by have := (topR_in HRi.out.1.ok).2; rw [← HL.out] at this; omega
              obtain ⟨a5, n5, c5, hv5, HEN⟩ : ∃ a5 n5 c5, u5 = .slice a5 n5 c5 ∧ Hid ((a5 = none ∧ n5 = 0 ∧ c5 = 0 ∧ R = ts.take i) ∨ ∃ g, a5 = some ⟨g, 0, none⟩ ∧ n5 = R.length ∧ c5 = n ∧ w1.heap.size ≤ g ∧ R.length ≤ i) := by
                rcases HCE.out.row with ⟨hv, hR⟩ | ⟨g, hv, hg, hmk, hRi⟩
                · exact ⟨_, _, _, hv, Or.inl ⟨rfl, rfl, rfl, hR⟩⟩
                · exact ⟨_, _, _, hv, Or.inr ⟨g, rfl, rfl, HN.out.symm, hg, hRi⟩⟩
              subst hv5
              have hnil := fun w => Lib.run_eql_slice_nil (P := Try.prog) w 33 54 a5 n5 c5 0 0 Try.underlying33
              go_upto_if 71 with fail
              clear hnil
              go_cut [5] (fun v wx => ∃ g R', v = .slice (some ⟨g, 0, none⟩) (List.length (α := Rw) R') n ∧ Below wE.heap.size wE wx ∧ R'.length ≤ i ∧ Hid (w1.heap.size ≤ g) ∧ Hid (CapAt w w1 wx ts us R' v i j N1))
              case first =>
                rcases HEN.out with ⟨ha5, hn5, hc5, hR⟩ | ⟨g, ha5, hn5, hc5, hg, hRi⟩
                · subst ha5
                  subst hn5
                  subst hc5
                  subst hR
                  have cE0 : wE.cell? ⟨w.heap.size, 0, none⟩ = some (.slice (some ⟨b1, o1, none⟩) n c) := by rw [HbE.out.cell (World.block_lt_of_cell? _ _ c0)]; exact c0
                  obtain ⟨wm, mk, own, gr⟩ := run_make_own (P := Try.prog) wE.drew wE.drew.heap.size 33 54 i0 _ 3 Try.underlying33 hi0 hz0 hz1 .i64 .i64 n (by rw [hz2]; omega) (by unfold maxLen; omega) (Nat.le_refl _)
                  have bm : Below wE.heap.size wE wm := (Below.drew (Below.refl _ wE)).grown gr (Nat.le_refl _) (fun k hk => by cases hk)
                  have HBM : Hid (Below wE.heap.size wE wm) := bm
                  have hcap : n ≤ c := by have := H1.out.cap; rw [← HN.out] at this; exact this
                  have hic : i ≤ c := by omega
                  have HLN : Hid ((rcells ((ts.map Rw.raw).take i)).length = i * 3) := head_len (by rw [List.length_map]; omega)
                  have hnews : ∀ k u, (rcells ((ts.map Rw.raw).take i))[k]? = some u → wm.cell? (Addr.add ⟨b1, o1, none⟩ k) = some u := head_at (H1.out.runs.now (Below.step HWE.out bm)) (by rw [List.length_map]; omega) i
                  have cm0 : wm.cell? ⟨w.heap.size, 0, none⟩ = some (.slice (some ⟨b1, o1, none⟩) n c) := by rw [bm.cell (World.block_lt_of_cell? _ _ cE0)]; exact cE0
                  clear bm gr
                  go_wp2_with fail
                  go_region_law (refine step_append_spare rfl _ _ 33 rfl wE.drew.heap.size 54 i0 3 Try.underlying33 hi0 hz1 wE.drew.heap.size 0 n [] rfl own ⟨b1, o1, none⟩ i c (rcells ((ts.map Rw.raw).take i)) rfl HLN.out hnews (rcells_one _) (by omega) ?_; intro w' own' gr')
                  all_goals
                    have HF : Hid (CapAt w w1 w' ts us (ts.take i) (.slice (some ⟨wE.heap.size, 0, none⟩) i n) i j N1) := by
                      have k : Below wE.heap.size wE w' := HBM.out.grown gr' HBM.out.size (fun x hx => by cases hx; exact Nat.le_refl _)
                      have hE := Below.size (HCE.out.below)
                      rw [HN.out] at own' ⊢
                      exact CapAt.fresh HCE.out H1.out (Below.step HWE.out k) k hE (by simpa using own')
                    have HB' : Hid (Below wE.heap.size wE w') := HBM.out.grown gr' HBM.out.size (fun x hx => by cases hx; exact Nat.le_refl _)
                    clear own own' gr' mk cE0 cm0 hnews
                    go_wp2_with fail
                    go_meet
                    case rel => exact ⟨wE.heap.size, ts.take i, by simp [List.length_take]; omega, HB'.out, by simp [List.length_take]; omega, HCE.out.below.size, by simpa using HF⟩
                · subst ha5
                  subst hn5
                  subst hc5
                  go_wp2_with fail
                  go_meet
                  case rel => exact ⟨g, R, rfl, Below.refl _ _, hRi, hg, HCE⟩
              case rest =>
                obtain ⟨g, R', rfl, bG, hR'i, hg, HCG⟩ := hcut
                have HTG : Hid (Trip wc wr.heap.size (.string r.s) (.int .u64 r.u) (.slice r.a r.X.length r.c)) := HTE.out.on bG HTE.out.lt
                have HWG : Hid (Below w.heap.size w wc) := Below.step HWE.out bG
                clear HTE HbE HWE HCE HEN bG
                have tg0 := HTG.out.c0
                have tg1 := HTG.out.c1
                have tg2 := HTG.out.c2
                obtain ⟨uc, huc⟩ : ∃ x, x = if r.u ≤ t then r.u else t := ⟨_, rfl⟩
                have HUC : Hid (uc = if r.u ≤ t then r.u else t) := huc
                clear huc
                go_wp2_with fail
                refine (capped_r r.s (HRi.out.1.now HWG.out) ht0 ht2).mono ?_
                rintro e wH ⟨p, kb, a', he, hp, hsp, ha, hkb, bH⟩
                have HQ := cut_at (w := w) HRi.out.1 ht0 ht1 hsp hp ha
                rw [← HUC.out] at he hkb HQ
                have HQ : Hid ((r.X.take p).length = p ∧ RunAt w uc a' p (r.X.take p) ∧ ∀ x, inR uc (r.X.take p) x ↔ inR r.u r.X x ∧ x ≤ t) := HQ
                have HKB : Hid (kb = true ↔ 0 < uc ∨ 0 < p) := hkb
                subst he
                clear hsp ha hkb tg0 tg1 tg2
                obtain ⟨wI, hwI⟩ : ∃ x, wH.alloc (.cells #[.string r.s, .int .u64 uc, .slice a' p p] 54) = x := ⟨_, rfl⟩
                have TI : Trip wI wH.heap.size (.string r.s) (.int .u64 uc) (.slice a' p p) := by rw [← hwI]; exact trip _ _ _ _ _
                have bI : Below wH.heap.size wH wI := by rw [← hwI]; exact (Below.refl _ _).alloc (Nat.le_refl _) _
                have HbI : Hid (Below wc.heap.size wc wI) := Below.step bH bI
                have HCI : Hid (CapAt w w1 wI ts us R' (.slice (some ⟨g, 0, none⟩) R'.length n) i j N1) := HCG.out.now HbI.out
                have HWI : Hid (Below w.heap.size w wI) := Below.step HWG.out HbI.out
                cases kb with
                | false =>
                  have HF : Hid (CapAt w w1 wI ts us R' (.slice (some ⟨g, 0, none⟩) R'.length n) (i + 1) j' N1) := by
                    have h := HCI.out
                    rw [HN.out] at h ⊢
                    have hn : ¬ (0 < uc ∨ 0 < p) := fun k => by have := HKB.out.2 k; cases this
                    rw [HUC.out] at hn HQ
                    have hno := cut_none HQ.out.1 hn HQ.out.2.2
                    have e := HEr.out
                    subst e
                    exact CapAt.skip h (Below.refl _ _) hi' H2.out.valid.1 HT.out hno HJ.out HP.out
                  clear TI bI bH
                  go_wp2_with fail
                  go_roundw
                  case rel => exact ⟨i + 1, j', R', rfl, by go_num, HF.out⟩
                  case measure => simp only [intOf]; omega
                | true =>
                  have hown : wI.ownsRow g 54 3 (.slice (some ⟨g, 0, none⟩) R'.length n) R'.length (rcells (R'.map Rw.raw)) := by
                    rcases HCI.out.row with ⟨hv, _⟩ | ⟨g', hv, _, hmk, _⟩
                    · cases hv
                    · cases hv; have k := hmk.own; rw [← HN.out] at k; exact k
                  have ti0 := TI.c0
                  have ti1 := TI.c1
                  have ti2 := TI.c2
                  clear TI bI bH
                  go_wp2_with (at_builtin; refine wpList_append_own_spare _ rfl _ _ 33 rfl g 54 i0 3 Try.underlying33 hi0 hz1 g R'.length n _ rfl (World.ownsRow.alloc hown _) ⟨wI.heap.size, 0, none⟩ 1 1 (rcell (r.s, uc, a', p, p)) rfl rfl (new3 _ _ _ _ _) (rcell_one _) (by omega) ?_)
                  intro w' own' gr'
                  have HF : Hid (CapAt w w1 w' ts us (R' ++ [⟨r.s, uc, a', p, r.X.take p⟩]) (.slice (some ⟨g, 0, none⟩) (R'.length + 1) n) (i + 1) j' N1) := by
                    have h := HCI.out
                    have hl := HQ.out.1
                    rw [show ((r.s, uc, a', p, p) : Raw) = Rw.raw ⟨r.s, uc, a', p, r.X.take p⟩ from by simp only [Rw.raw]; rw [hl]] at own'
                    rw [HN.out] at h own' ⊢
                    have hne : uc = 0 → r.X.take p ≠ [] := by
                      have k := HKB.out.1 (by simp)
                      rw [HUC.out] at k ⊢
                      exact cut_ne hl k
                    have hlN : (r.X.take p).length ≤ N1 := by rw [hl]; exact Nat.le_trans hp HRi.out.2
                    have e := HEr.out
                    subst e
                    exact CapAt.one h hlo.out hi' H2.out.valid.1 HT.out ⟨ts[i].s, uc, a', p, ts[i].X.take p⟩ rfl HQ.out.2.1 hne hlN HQ.out.2.2 HWI.out HJ.out HP.out gr' own'
                  clear own' gr' hown ti0 ti1 ti2
                  go_wp2_with fail
                  go_roundw
                  case rel => exact ⟨i + 1, j', R' ++ [⟨r.s, uc, a', p, r.X.take p⟩], rfl, by go_num, HF.out⟩
                  case measure => simp only [intOf]; omega
    · obtain rfl : n = i := by omega
      have hall : ts.take n = ts := List.take_of_length_le (by rw [HN.out]; exact Nat.le_refl _)
      have hnone : ts.drop n = [] := List.drop_eq_nil_of_le (by rw [HN.out]; exact Nat.le_refl _)
      have hst := HR.out.st
      rw [hall, hnone] at hst
      have HV : Hid (Valid (R.map Rw.rn)) := ⟨by simpa using hst.so, hst.ok⟩
      have HC : Hid (IsCut (ts.map Rw.rn) (us.map Rw.rn) (R.map Rw.rn)) := hst.same
      rcases HR.out.row with ⟨hv, hR⟩ | ⟨g, hv, hg, hmk, hRi⟩
      · rw [hall] at hR
        have HF : Hid (GaveC (IsCut (ts.map Rw.rn) (us.map Rw.rn)) N1 w (wr.setCell ⟨w.heap.size + 1 + 1, 0, none⟩ (.slice a n c)) (.returned (.agg #[.slice a n c]))) := by
          have b3 := HW.out.setCell (p := ⟨w.heap.size + 1 + 1, 0, none⟩) (by simp only; omega) (.slice a n c)
          refine ⟨a, c, ts, by rw [← HN.out], H1.out.now b3, ?_, b3⟩
          rw [← hR]; exact hR ▸ HC.out
        clear hst hR HR HC HV hall hnone
        subst hv
        have hnil := fun w => Lib.run_eql_slice_nil (P := Try.prog) w 33 54 none 0 0 0 0 Try.underlying33
        have v3 := World.cell?_setCell_same _ _ (.slice a n c) c2
        go_wp2_with fail
        refine bodyPost_ret (v := .agg #[.slice a n c]) ?_ rfl ?_
        · simp [results, Try.results20, go_sem, v3, Result.andThen]
        · exact HF.out
      · have hRn : R.length ≤ n := hRi
        have HF : Hid (GaveC (IsCut (ts.map Rw.rn) (us.map Rw.rn)) N1 w (wr.setCell ⟨w.heap.size + 1 + 1, 0, none⟩ (.slice (some ⟨g, 0, none⟩) R.length n)) (.returned (.agg #[.slice (some ⟨g, 0, none⟩) R.length n]))) := by
          have k := making_done (p := ⟨w.heap.size + 1 + 1, 0, none⟩) (v := .slice (some ⟨g, 0, none⟩) R.length n) (q := IsCut (ts.map Rw.rn) (us.map Rw.rn)) hmk (by simp only; omega) (by simp only; have := HZ.out; omega) HW.out (by simp only; omega) (by omega) (by rw [← HN.out]; exact hRn) HV.out HC.out
          rw [← HN.out] at k; exact k
        rw [← HN.out] at hv
        clear hst HR HC HV hall hnone hmk
        subst hv
        have hnil := fun w => Lib.run_eql_slice_nil (P := Try.prog) w 33 54 (some ⟨g, 0, none⟩) R.length n 0 0 Try.underlying33
        have v3 := World.cell?_setCell_same _ _ (.slice (some ⟨g, 0, none⟩) R.length n) c2
        go_wp2_with fail
        refine bodyPost_ret (v := .agg #[.slice (some ⟨g, 0, none⟩) R.length n]) ?_ rfl ?_
        · simp [results, Try.results20, go_sem, v3, Result.andThen]
        · exact HF.out
end Go.Proofs.Qxb6620807a
