import Derived.Test.Qxb6620807aJoin2
namespace Go.Proofs.Qxb6620807a
open Go.RowKit
set_option linter.unusedVariables false

set_option maxRecDepth 100000 in
set_option maxHeartbeats 8000000 in
theorem join_two (HJ : JoinRSpec) (a b : Option Addr) (c d : Nat) (ts us : List Rw) (N1 N2 : Nat) (w : World) (hN : N1 + N2 ≤ 16777216) (ht : 0 < ts.length) (hu : 0 < us.length) (h1 : CtxR w a c ts N1) (h2 : CtxR w b d us N2) :
    Calls Try.prog 15 #[.agg #[.slice a ts.length c], .agg #[.slice b us.length d]] w (fun e w' => GaveC (IsUnion (ts.map Rw.rn) (us.map Rw.rn)) (N1 + N2) w w' e) := by
  obtain ⟨b1, o1, rfl, lb1, at1⟩ := h1.at3 ht
  obtain ⟨b2, o2, rfl, lb2, at2⟩ := h2.at3 hu
  obtain ⟨w1, hw1, hsz1, hb1, k0, k1, k2, kf⟩ := box1s w (.slice (some ⟨b1, o1, none⟩) ts.length c) (.slice (some ⟨b2, o2, none⟩) us.length d) (.slice none 0 0)
  obtain ⟨i0, hi, hz0, hz1, hz2⟩ := info_parts Try.info54
  have l1 := h1.len
  have l2 := h2.len
  have cp1 := h1.cap
  have cp2 := h2.cap
  have hst := JoinState.start h1.valid h2.valid
  have H1 : Hid (CtxR w (some ⟨b1, o1, none⟩) c ts N1) := h1
  have H2 : Hid (CtxR w (some ⟨b2, o2, none⟩) d us N2) := h2
  have HA1 : Hid (∀ i (hi : i < ts.length), At3 w b1 (o1 + i * 3) ts[i]) := at1
  have HA2 : Hid (∀ i (hi : i < us.length), At3 w b2 (o2 + i * 3) us[i]) := at2
  have HST : Hid (JoinState (ts.map Rw.rn) (us.map Rw.rn) [] (ts.map Rw.rn) (us.map Rw.rn)) := hst
  obtain ⟨n, hn⟩ : ∃ n, n = ts.length := ⟨_, rfl⟩
  obtain ⟨m, hm⟩ : ∃ m, m = us.length := ⟨_, rfl⟩
  have HN : Hid (n = ts.length) := hn
  have HM : Hid (m = us.length) := hm
  rw [← hn] at l1 cp1 ht k0 hw1
  rw [← hm] at l2 cp2 hu k1 hw1
  rw [← hn, ← hm]
  clear hn hm at1 at2 hst h1 h2
  obtain ⟨w2, mk2, own2, gr2⟩ := run_make_own (P := Try.prog) w1 w1.heap.size 33 54 i0 _ 3 Try.underlying33 hi hz0 hz1 .i64 .i64 (n + m) (by rw [hz2]; omega) (by unfold maxLen; omega) (Nat.le_refl _)
  have B2 : Below w1.heap.size w1 w2 := (Below.refl _ _).grown gr2 (Nat.le_refl _) (fun k hk => by cases hk)
  have s2 := B2.size
  have HB1 : Hid (Below w.heap.size w w1) := hb1
  have HZ : Hid (w1.heap.size = w.heap.size + 3) := hsz1
  have HK : Hid (w1.cell? ⟨w.heap.size, 0, none⟩ = some (.slice (some ⟨b1, o1, none⟩) n c) ∧ w1.cell? ⟨w.heap.size + 1, 0, none⟩ = some (.slice (some ⟨b2, o2, none⟩) m d) ∧ w1.cell? ⟨w.heap.size + 1 + 1, 0, none⟩ = some (.slice none 0 0) ∧ w1.frozen? ⟨w.heap.size + 1 + 1, 0, none⟩ = false) := ⟨k0, k1, k2, kf⟩
  simp only [Int.natCast_add] at mk2
  clear gr2 hb1 hsz1 kf k2
  have hn0 : ((n : Int) == 0) = false := by simp; omega
  have hm0 : ((m : Int) == 0) = false := by simp; omega
  go_enter Try.func15, Try.ntmps15
  go_wp2_with fail
  clear mk2 hw1 k0 k1
  go_loopw [5, 6, 7] (fun v vi vj wr => ∃ (i j : Nat) (R : List Rw), v = .slice (some ⟨w1.heap.size, 0, none⟩) R.length (n + m) ∧ vi = .int .i64 i ∧ vj = .int .i64 j ∧ JoinAt w.heap.size w1.heap.size w1 wr (n + m) ts us R i j (N1 + N2)) (fun _ vi vj _ => (n - (intOf vi).toNat) + (m - (intOf vj).toNat))
  case atStart =>
    refine ⟨0, 0, [], rfl, rfl, rfl, Nat.le_trans (by omega) (Nat.le_of_eq HZ.out.symm), by omega, by omega, ⟨own2, fun t ht => by simp at ht, fun t ht => by simp at ht⟩, B2, s2, ?_, by simpa using HST.out⟩
    rw [← HN.out, ← HM.out]; simp
  case round =>
    clear own2 B2 s2
    obtain ⟨i, j, R, rfl, rfl, rfl, HR⟩ := hrel
    have HR : Hid (JoinAt w.heap.size w1.heap.size w1 wr (n + m) ts us R i j (N1 + N2)) := HR
    have hin : i ≤ n := by rw [HN.out]; exact HR.out.hi
    have hjm : j ≤ m := by rw [HM.out]; exact HR.out.hj
    have c0 : wr.cell? ⟨w.heap.size, 0, none⟩ = some (.slice (some ⟨b1, o1, none⟩) n c) := by rw [HR.out.below.cell (p := ⟨w.heap.size, 0, none⟩) (by rw [HZ.out]; simp only; omega)]; exact HK.out.1
    have c1 : wr.cell? ⟨w.heap.size + 1, 0, none⟩ = some (.slice (some ⟨b2, o2, none⟩) m d) := by rw [HR.out.below.cell (p := ⟨w.heap.size + 1, 0, none⟩) (by rw [HZ.out]; simp only; omega)]; exact HK.out.2.1
    by_cases hboth : i < n ∧ j < m
    · obtain ⟨hin', hjm'⟩ := hboth
      have hi' : i < ts.length := by rw [← HN.out]; exact hin'
      have hj' : j < us.length := by rw [← HM.out]; exact hjm'
      obtain ⟨p0, p1, p2⟩ := (HA1.out i hi').on (Below.mono (Below.trans HB1.out (HR.out.below.mono (Nat.le_trans (by omega) (Nat.le_of_eq HZ.out.symm)))) (Nat.le_refl _)) lb1
      obtain ⟨q0, q1, q2⟩ := (HA2.out j hj').on (Below.mono (Below.trans HB1.out (HR.out.below.mono (Nat.le_trans (by omega) (Nat.le_of_eq HZ.out.symm)))) (Nat.le_refl _)) lb2
      have lin : (i : Int) < n := by omega
      have ljm : (j : Int) < m := by omega
      have HRi : Hid (RunAt w ts[i].u ts[i].a ts[i].c ts[i].X ∧ ts[i].X.length ≤ N1) := ⟨H1.out.each _ (List.getElem_mem _), H1.out.bnd _ (List.getElem_mem _)⟩
      have HRj : Hid (RunAt w us[j].u us[j].a us[j].c us[j].X ∧ us[j].X.length ≤ N2) := ⟨H2.out.each _ (List.getElem_mem _), H2.out.bnd _ (List.getElem_mem _)⟩
      obtain ⟨r, hr⟩ : ∃ r, r = ts[i] := ⟨_, rfl⟩
      obtain ⟨t, hu⟩ : ∃ t, t = us[j] := ⟨_, rfl⟩
      have HEr : Hid (r = ts[i]) := hr
      have HEt : Hid (t = us[j]) := hu
      rw [← hr] at p0 p1 p2 HRi
      rw [← hu] at q0 q1 q2 HRj
      obtain ⟨cmp, hcmp⟩ : ∃ x, x = Lib.compareBytes r.s.data.toList t.s.data.toList := ⟨_, rfl⟩
      have HCL : Hid (cmp < 0 ↔ slt r.s.toList t.s.toList) := by unfold Hid; rw [hcmp]; exact cmp_lt
      have HCG : Hid (0 < cmp ↔ slt t.s.toList r.s.toList) := by unfold Hid; rw [hcmp]; exact cmp_gt
      have HC : Hid (cmp = Lib.compareBytes r.s.data.toList t.s.data.toList) := hcmp
      clear hr hu hcmp
      have hroom : R.length + (n - i) + (m - j) ≤ n + m := by have := HR.out.room; rw [← HN.out, ← HM.out] at this; exact this
      have hlr : r.X.length ≤ 16777216 := by have := HRi.out.2; omega
      have hlt' : t.X.length ≤ 16777216 := by have := HRj.out.2; omega
      go_wp2_with fail
      go_quiet ((go_at_call 31; refine Calls.quiet_of ((compare_any r.s t.s _).mono fun _ _ k => ⟨by rw [k.1, ← HC.out], 0, k.2⟩)))
      obtain ⟨wx, hwx⟩ : ∃ x, x = wr.drewN nq := ⟨_, rfl⟩
      rw [← hwx]
      have HX : Hid (JoinAt w.heap.size w1.heap.size w1 wx (n + m) ts us R i j (N1 + N2)) := by unfold Hid; rw [hwx]; exact HR.out.drewN nq
      replace c0 := cell_dr hwx c0
      replace c1 := cell_dr hwx c1
      replace p0 := cell_dr hwx p0
      replace p1 := cell_dr hwx p1
      replace p2 := cell_dr hwx p2
      replace q0 := cell_dr hwx q0
      replace q1 := cell_dr hwx q1
      replace q2 := cell_dr hwx q2
      have hown := HX.out.making.own
      have HWX : Hid (Below w.heap.size w wx) := Below.trans HB1.out (HX.out.below.mono (Nat.le_trans (by omega) (Nat.le_of_eq HZ.out.symm)))
      clear hwx HR
      rcases slt_tri r.s.toList t.s.toList with hc | hc | hc
      · have hlt : cmp < 0 := HCL.out.2 hc
        have HLT : Hid (slt r.s.toList t.s.toList) := hc
        clear hc
        go_wp2_with (at_builtin; refine wpList_append_own_spare _ rfl _ _ 33 rfl w1.heap.size 54 i0 3 Try.underlying33 hi hz1 w1.heap.size R.length (n + m) _ rfl (World.ownsRow.alloc hown _) ⟨wx.heap.size, 0, none⟩ 1 1 (rcell r.raw) rfl rfl (new3 _ _ _ _ _) (rcell_one _) (by omega) ?_)
        intro w' own' gr'
        have J2 : Hid (JoinAt w.heap.size w1.heap.size w1 w' (n + m) ts us (R ++ [r]) (i + 1) j (N1 + N2)) := by
          have e1 := HEr.out
          have e2 := HEt.out
          subst e1 e2
          exact HX.out.left hi' hj' HLT.out ((HRi.out.1.off (lo := w.heap.size) (g := w1.heap.size) (Nat.le_refl _)).now HWX.out) (by have := HRi.out.2; omega) gr' own'
        clear own' gr' hown c0 c1 p0 p1 p2 q0 q1 q2
        go_wp2_with fail
        go_roundw
        case rel => exact ⟨i + 1, j, R ++ [r], by simp, by go_num, rfl, J2.out⟩
        case measure => simp only [intOf]; omega
      · have hl0 : ¬ cmp < 0 := fun h => by have := HCL.out.1 h; rw [hc] at this; exact slt_irrefl _ this
        have hg0 : ¬ 0 < cmp := fun h => by have := HCG.out.1 h; rw [hc] at this; exact slt_irrefl _ this
        have HEQ : Hid (r.s.toList = t.s.toList) := hc
        have HOL : Hid (w1.heap.size < wx.heap.size) := (hown.lt _ rfl).2
        clear hc
        go_wp2_with fail
        go_region_law (first
          | (refine step_append_spare rfl _ _ 33 rfl w1.heap.size 54 i0 3 Try.underlying33 hi hz1 w1.heap.size R.length (n + m) (rcells (R.map Rw.raw)) rfl (World.ownsRow.alloc own3 _) ⟨w3.heap.size, 0, none⟩ 1 1 (rcell (sz, uz, az, Z.length, cz)) rfl rfl (new3 _ _ _ _ _) (rcell_one _) (by omega) ?_; intro w' own' gr')
          | (go_simp; go_at_call 32; refine (HJ r.s t.s r.u t.u r.a t.a r.c t.c r.X t.X wx.drew HEQ.out (HRi.out.1.now (Below.drew HWX.out)) (HRj.out.1.now (Below.drew HWX.out))).mono ?_; rintro e w3 ⟨sz, uz, az, cz, Z, rfl, hsz, hok, hinz, hrow, hcz, hcz2, hlz, hb3⟩; have own3 := ownsRow_below' (World.ownsRow.drew hown) hb3))
        all_goals
          have J2 : Hid (JoinAt w.heap.size w1.heap.size w1 w' (n + m) ts us (R ++ [⟨sz, uz, az, cz, Z⟩]) (i + 1) (j + 1) (N1 + N2)) := by
            have e1 := HEr.out
            have e2 := HEt.out
            subst e1 e2
            have l1 := HRi.out.2
            have l2 := HRj.out.2
            exact JoinAt.both (show JoinAt w.heap.size w1.heap.size w1 wx.drew (n + m) ts us R i j (N1 + N2) from HX.out.drewN 1) hi' hj' HEQ.out hb3 ⟨sz, uz, az, cz, Z⟩ hsz hok hinz ⟨hok, rowAway_of_from hrow HOL.out, (show Z.length ≤ 16777216 by omega), hcz, hcz2⟩ (by simp only; omega) gr' own'
          clear own' gr' hown c0 c1 p0 p1 p2 q0 q1 q2 own3 hb3 hrow hok hinz hsz
          go_wp2_with fail
          go_roundw
          case rel => exact ⟨i + 1, j + 1, R ++ [⟨sz, uz, az, cz, Z⟩], by simp, by go_num, by go_num, J2.out⟩
          case measure => simp only [intOf]; omega
      · have hgt : 0 < cmp := HCG.out.2 hc
        have HGT : Hid (slt t.s.toList r.s.toList) := hc
        clear hc
        go_wp2_with (at_builtin; refine wpList_append_own_spare _ rfl _ _ 33 rfl w1.heap.size 54 i0 3 Try.underlying33 hi hz1 w1.heap.size R.length (n + m) _ rfl (World.ownsRow.alloc hown _) ⟨wx.heap.size, 0, none⟩ 1 1 (rcell t.raw) rfl rfl (new3 _ _ _ _ _) (rcell_one _) (by omega) ?_)
        intro w' own' gr'
        have J2 : Hid (JoinAt w.heap.size w1.heap.size w1 w' (n + m) ts us (R ++ [t]) i (j + 1) (N1 + N2)) := by
          have e1 := HEr.out
          have e2 := HEt.out
          subst e1 e2
          exact HX.out.right hi' hj' HGT.out ((HRj.out.1.off (lo := w.heap.size) (g := w1.heap.size) (Nat.le_refl _)).now HWX.out) (by have := HRj.out.2; omega) gr' own'
        clear own' gr' hown c0 c1 p0 p1 p2 q0 q1 q2
        go_wp2_with fail
        go_roundw
        case rel => exact ⟨i, j + 1, R ++ [t], by simp, rfl, by go_num, J2.out⟩
        case measure => simp only [intOf]; omega
    · have hroom : R.length + (n - i) + (m - j) ≤ n + m := by have := HR.out.room; rw [← HN.out, ← HM.out] at this; exact this
      have hown := HR.out.making.own
      have HWR : Hid (Below w.heap.size w wr) := Below.trans HB1.out (HR.out.below.mono (Nat.le_trans (by omega) (Nat.le_of_eq HZ.out.symm)))
      have HLA : Hid ((rcells ((ts.map Rw.raw).drop i)).length = (n - i) * 3) := by unfold Hid; rw [rcells_length, List.length_drop, List.length_map, ← HN.out]
      have HLB : Hid ((rcells ((us.map Rw.raw).drop j)).length = (m - j) * 3) := by unfold Hid; rw [rcells_length, List.length_drop, List.length_map, ← HM.out]
      have HEND : Hid ((ts.drop i).map Rw.rn = [] ∨ (us.drop j).map Rw.rn = []) := by
        by_cases hq : i < n
        · right
          have : us.drop j = [] := List.drop_eq_nil_of_le (by rw [← HM.out]; omega)
          rw [this]; rfl
        · left
          have : ts.drop i = [] := List.drop_eq_nil_of_le (by rw [← HN.out]; omega)
          rw [this]; rfl
      obtain ⟨ada, hada, newa⟩ : ∃ ada : Addr, (if c = i then (some ⟨b1, o1, none⟩ : Option Addr) else some ⟨b1, o1 + i * 3, none⟩) = some ada ∧ ∀ k u, (rcells ((ts.map Rw.raw).drop i))[k]? = some u → wr.cell? (ada.add k) = some u := rest_at (H1.out.runs.now HWR.out) (by rw [List.length_map, ← HN.out]; exact ht) c i (by rw [List.length_map, ← HN.out]; exact cp1)
      obtain ⟨adb, hadb, newb⟩ : ∃ adb : Addr, (if d = j then (some ⟨b2, o2, none⟩ : Option Addr) else some ⟨b2, o2 + j * 3, none⟩) = some adb ∧ ∀ wq, Below w.heap.size w wq → ∀ k u, (rcells ((us.map Rw.raw).drop j))[k]? = some u → wq.cell? (adb.add k) = some u := rest_at' H2.out.runs (by rw [List.length_map, ← HM.out]; exact hu) d j (by rw [List.length_map, ← HM.out]; exact cp2)
      have HNB : Hid (∀ wq, Below w.heap.size w wq → ∀ k u, (rcells ((us.map Rw.raw).drop j))[k]? = some u → wq.cell? (adb.add k) = some u) := newb
      clear newb
      have hsl1 : (i : Int) ≤ n := by omega
      have hsl2 : (j : Int) ≤ m := by omega
      by_cases hin' : i < n
      · have hjm' : ¬ j < m := fun h => hboth ⟨hin', h⟩
        have hx1 : ∀ z, z = (if c = i then (some ⟨b1, o1, none⟩ : Option Addr) else some ⟨b1, o1 + i * 3, none⟩) → Value.slice z (n - i) (c - i) = .slice (some ada) (n - i) (c - i) := fun z hz => by rw [hz, hada]
        have hx2 : ∀ z, z = (if d = j then (some ⟨b2, o2, none⟩ : Option Addr) else some ⟨b2, o2 + j * 3, none⟩) → Value.slice z (m - j) (d - j) = .slice (some adb) (m - j) (d - j) := fun z hz => by rw [hz, hadb]
        have HX1 : Hid (∀ z, z = (if c = i then (some ⟨b1, o1, none⟩ : Option Addr) else some ⟨b1, o1 + i * 3, none⟩) → Value.slice z (n - i) (c - i) = .slice (some ada) (n - i) (c - i)) := hx1
        have HX2 : Hid (∀ z, z = (if d = j then (some ⟨b2, o2, none⟩ : Option Addr) else some ⟨b2, o2 + j * 3, none⟩) → Value.slice z (m - j) (d - j) = .slice (some adb) (m - j) (d - j)) := hx2
        clear hx1 hx2 hada hadb
        go_wp2_with (at_builtin; refine wpList_append_own_spare _ rfl _ _ 33 rfl w1.heap.size 54 i0 3 Try.underlying33 hi hz1 w1.heap.size R.length (n + m) _ rfl hown ada (n - i) (c - i) (rcells ((ts.map Rw.raw).drop i)) (HX1.out _ (by first | rfl | exact (if_neg (by omega)).symm | exact (if_pos HCI.out).symm | exact (if_neg HCI.out).symm)) HLA.out newa (rcells_one _) (by omega) ?_)
        intro w5 own5 gr5
        have M5 : Hid (Making w.heap.size w1.heap.size w5 (n + m) (R ++ ts.drop i) (N1 + N2)) := making_rest HR.out.hlo HR.out.making H1.out (by omega) (Nat.le_refl _) HWR.out HN.out gr5 own5
        have b5 : Below w1.heap.size w1 w5 := HR.out.below.grown gr5 HR.out.size (fun x hx => by cases hx; exact Nat.le_refl _)
        have HW5 : Hid (Below w.heap.size w w5) := HWR.out.grown gr5 HWR.out.size (fun x hx => by cases hx; exact HR.out.hlo)
        have c5 : w5.cell? ⟨w.heap.size + 1, 0, none⟩ = some (.slice (some ⟨b2, o2, none⟩) m d) := by rw [b5.cell (p := ⟨w.heap.size + 1, 0, none⟩) (by rw [HZ.out]; simp only; omega)]; exact HK.out.2.1
        have HB5 : Hid (Below w1.heap.size w1 w5) := b5
        clear c0 c1 newa hown gr5 b5
        rcases Classical.em (d = j) with hdj | hdj
        · have hdT : (d = j) = True := eq_true hdj
          have HDJ : Hid (d = j) := hdj
          clear hdj
          go_wp2_with (at_builtin; refine wpList_append_own_spare _ rfl _ _ 33 rfl w1.heap.size 54 i0 3 Try.underlying33 hi hz1 w1.heap.size (R.length + (n - i)) (n + m) _ rfl own5 adb (m - j) (d - j) (rcells ((us.map Rw.raw).drop j)) (HX2.out _ (by first | rfl | exact (if_pos HDJ.out).symm | exact (if_neg HDJ.out).symm)) HLB.out (HNB.out _ HW5.out) (rcells_one _) (by omega) ?_)
          intro w6 own6 gr6
          have hl5 : (R ++ ts.drop i).length = R.length + (n - i) := by rw [List.length_append, List.length_drop, ← HN.out]
          have M6 : Making w.heap.size w1.heap.size w6 (n + m) (R ++ ts.drop i ++ us.drop j) (N1 + N2) := making_rest HR.out.hlo M5.out H2.out (by omega) (Nat.le_refl _) HW5.out HM.out gr6 (by rw [hl5, List.map_append, List.map_drop, rcells_append, List.append_assoc]; exact own6)
          have b6 : Below w1.heap.size w1 w6 := HB5.out.grown gr6 HB5.out.size (fun x hx => by cases hx; exact Nat.le_refl _)
          have HW6 := HW5.out.grown gr6 HW5.out.size (fun x hx => by cases hx; exact HR.out.hlo)
          have hl6 : (R ++ ts.drop i ++ us.drop j).length = R.length + (n - i) + (m - j) := by rw [List.length_append, hl5, List.length_drop, ← HM.out]
          have D := HR.out.st.done HEND.out
          have HF : Hid (GaveC (IsUnion (ts.map Rw.rn) (us.map Rw.rn)) (N1 + N2) w (w6.setCell ⟨w.heap.size + 1 + 1, 0, none⟩ (.slice (some ⟨w1.heap.size, 0, none⟩) (R.length + (n - i) + (m - j)) (n + m))) (.returned (.agg #[.slice (some ⟨w1.heap.size, 0, none⟩) (R.length + (n - i) + (m - j)) (n + m)]))) := by
            have k := making_done (p := ⟨w.heap.size + 1 + 1, 0, none⟩) (v := .slice (some ⟨w1.heap.size, 0, none⟩) (R.length + (n - i) + (m - j)) (n + m)) (q := IsUnion (ts.map Rw.rn) (us.map Rw.rn)) M6 (by simp only; omega) (by rw [HZ.out]; simp only; omega) HW6 (by simp only; omega) (by rw [hl6]; omega) (by rw [hl6]; omega) (by rw [List.map_append, List.map_append]; exact D.1) (by rw [List.map_append, List.map_append]; exact D.2)
            rw [hl6] at k; exact k
          have v2 : w6.cell? ⟨w.heap.size + 1 + 1, 0, none⟩ = some (.slice none 0 0) := by rw [b6.cell (p := ⟨w.heap.size + 1 + 1, 0, none⟩) (by rw [HZ.out]; simp only; omega)]; exact HK.out.2.2.1
          have vf : w6.frozen? ⟨w.heap.size + 1 + 1, 0, none⟩ = false := by rw [b6.frozen (p := ⟨w.heap.size + 1 + 1, 0, none⟩) (by rw [HZ.out]; simp only; omega)]; exact HK.out.2.2.2
          have v3 := World.cell?_setCell_same _ _ (.slice (some ⟨w1.heap.size, 0, none⟩) (R.length + (n - i) + (m - j)) (n + m)) v2
          have V3 : Hid ((w6.setCell ⟨w.heap.size + 1 + 1, 0, none⟩ (.slice (some ⟨w1.heap.size, 0, none⟩) (R.length + (n - i) + (m - j)) (n + m))).cell? ⟨w.heap.size + 1 + 1, 0, none⟩ = some (.slice (some ⟨w1.heap.size, 0, none⟩) (R.length + (n - i) + (m - j)) (n + m))) := v3
          clear D M6 b6 HW6 hl5 hl6 own5 own6 gr6 c5 v3
          go_wp2_with fail
          refine bodyPost_ret (v := .agg #[.slice (some ⟨w1.heap.size, 0, none⟩) (R.length + (n - i) + (m - j)) (n + m)]) ?_ rfl ?_
          · have V := V3.out
            simp [results, Try.results15, go_sem, V, Result.andThen]
          · exact HF.out
        · have hdT : (d = j) = False := eq_false hdj
          have HDJ : Hid (¬ d = j) := hdj
          clear hdj
          go_wp2_with (at_builtin; refine wpList_append_own_spare _ rfl _ _ 33 rfl w1.heap.size 54 i0 3 Try.underlying33 hi hz1 w1.heap.size (R.length + (n - i)) (n + m) _ rfl own5 adb (m - j) (d - j) (rcells ((us.map Rw.raw).drop j)) (HX2.out _ (by first | rfl | exact (if_pos HDJ.out).symm | exact (if_neg HDJ.out).symm)) HLB.out (HNB.out _ HW5.out) (rcells_one _) (by omega) ?_)
          intro w6 own6 gr6
          have hl5 : (R ++ ts.drop i).length = R.length + (n - i) := by rw [List.length_append, List.length_drop, ← HN.out]
          have M6 : Making w.heap.size w1.heap.size w6 (n + m) (R ++ ts.drop i ++ us.drop j) (N1 + N2) := making_rest HR.out.hlo M5.out H2.out (by omega) (Nat.le_refl _) HW5.out HM.out gr6 (by rw [hl5, List.map_append, List.map_drop, rcells_append, List.append_assoc]; exact own6)
          have b6 : Below w1.heap.size w1 w6 := HB5.out.grown gr6 HB5.out.size (fun x hx => by cases hx; exact Nat.le_refl _)
          have HW6 := HW5.out.grown gr6 HW5.out.size (fun x hx => by cases hx; exact HR.out.hlo)
          have hl6 : (R ++ ts.drop i ++ us.drop j).length = R.length + (n - i) + (m - j) := by rw [List.length_append, hl5, List.length_drop, ← HM.out]
          have D := HR.out.st.done HEND.out
          have HF : Hid (GaveC (IsUnion (ts.map Rw.rn) (us.map Rw.rn)) (N1 + N2) w (w6.setCell ⟨w.heap.size + 1 + 1, 0, none⟩ (.slice (some ⟨w1.heap.size, 0, none⟩) (R.length + (n - i) + (m - j)) (n + m))) (.returned (.agg #[.slice (some ⟨w1.heap.size, 0, none⟩) (R.length + (n - i) + (m - j)) (n + m)]))) := by
            have k := making_done (p := ⟨w.heap.size + 1 + 1, 0, none⟩) (v := .slice (some ⟨w1.heap.size, 0, none⟩) (R.length + (n - i) + (m - j)) (n + m)) (q := IsUnion (ts.map Rw.rn) (us.map Rw.rn)) M6 (by simp only; omega) (by rw [HZ.out]; simp only; omega) HW6 (by simp only; omega) (by rw [hl6]; omega) (by rw [hl6]; omega) (by rw [List.map_append, List.map_append]; exact D.1) (by rw [List.map_append, List.map_append]; exact D.2)
            rw [hl6] at k; exact k
          have v2 : w6.cell? ⟨w.heap.size + 1 + 1, 0, none⟩ = some (.slice none 0 0) := by rw [b6.cell (p := ⟨w.heap.size + 1 + 1, 0, none⟩) (by rw [HZ.out]; simp only; omega)]; exact HK.out.2.2.1
          have vf : w6.frozen? ⟨w.heap.size + 1 + 1, 0, none⟩ = false := by rw [b6.frozen (p := ⟨w.heap.size + 1 + 1, 0, none⟩) (by rw [HZ.out]; simp only; omega)]; exact HK.out.2.2.2
          have v3 := World.cell?_setCell_same _ _ (.slice (some ⟨w1.heap.size, 0, none⟩) (R.length + (n - i) + (m - j)) (n + m)) v2
          have V3 : Hid ((w6.setCell ⟨w.heap.size + 1 + 1, 0, none⟩ (.slice (some ⟨w1.heap.size, 0, none⟩) (R.length + (n - i) + (m - j)) (n + m))).cell? ⟨w.heap.size + 1 + 1, 0, none⟩ = some (.slice (some ⟨w1.heap.size, 0, none⟩) (R.length + (n - i) + (m - j)) (n + m))) := v3
          clear D M6 b6 HW6 hl5 hl6 own5 own6 gr6 c5 v3
          go_wp2_with fail
          refine bodyPost_ret (v := .agg #[.slice (some ⟨w1.heap.size, 0, none⟩) (R.length + (n - i) + (m - j)) (n + m)]) ?_ rfl ?_
          · have V := V3.out
            simp [results, Try.results15, go_sem, V, Result.andThen]
          · exact HF.out
      · rcases Classical.em (c = i) with hci | hci
        · have hcT : (c = i) = True := eq_true hci
          have HCI : Hid (c = i) := hci
          clear hci
          have hx1 : ∀ z, z = (if c = i then (some ⟨b1, o1, none⟩ : Option Addr) else some ⟨b1, o1 + i * 3, none⟩) → Value.slice z (n - i) (c - i) = .slice (some ada) (n - i) (c - i) := fun z hz => by rw [hz, hada]
          have hx2 : ∀ z, z = (if d = j then (some ⟨b2, o2, none⟩ : Option Addr) else some ⟨b2, o2 + j * 3, none⟩) → Value.slice z (m - j) (d - j) = .slice (some adb) (m - j) (d - j) := fun z hz => by rw [hz, hadb]
          have HX1 : Hid (∀ z, z = (if c = i then (some ⟨b1, o1, none⟩ : Option Addr) else some ⟨b1, o1 + i * 3, none⟩) → Value.slice z (n - i) (c - i) = .slice (some ada) (n - i) (c - i)) := hx1
          have HX2 : Hid (∀ z, z = (if d = j then (some ⟨b2, o2, none⟩ : Option Addr) else some ⟨b2, o2 + j * 3, none⟩) → Value.slice z (m - j) (d - j) = .slice (some adb) (m - j) (d - j)) := hx2
          clear hx1 hx2 hada hadb
          go_wp2_with (at_builtin; refine wpList_append_own_spare _ rfl _ _ 33 rfl w1.heap.size 54 i0 3 Try.underlying33 hi hz1 w1.heap.size R.length (n + m) _ rfl hown ada (n - i) (c - i) (rcells ((ts.map Rw.raw).drop i)) (HX1.out _ (by first | rfl | exact (if_neg (by omega)).symm | exact (if_pos HCI.out).symm | exact (if_neg HCI.out).symm)) HLA.out newa (rcells_one _) (by omega) ?_)
          intro w5 own5 gr5
          have M5 : Hid (Making w.heap.size w1.heap.size w5 (n + m) (R ++ ts.drop i) (N1 + N2)) := making_rest HR.out.hlo HR.out.making H1.out (by omega) (Nat.le_refl _) HWR.out HN.out gr5 own5
          have b5 : Below w1.heap.size w1 w5 := HR.out.below.grown gr5 HR.out.size (fun x hx => by cases hx; exact Nat.le_refl _)
          have HW5 : Hid (Below w.heap.size w w5) := HWR.out.grown gr5 HWR.out.size (fun x hx => by cases hx; exact HR.out.hlo)
          have c5 : w5.cell? ⟨w.heap.size + 1, 0, none⟩ = some (.slice (some ⟨b2, o2, none⟩) m d) := by rw [b5.cell (p := ⟨w.heap.size + 1, 0, none⟩) (by rw [HZ.out]; simp only; omega)]; exact HK.out.2.1
          have HB5 : Hid (Below w1.heap.size w1 w5) := b5
          clear c0 c1 newa hown gr5 b5
          rcases Classical.em (d = j) with hdj | hdj
          · have hdT : (d = j) = True := eq_true hdj
            have HDJ : Hid (d = j) := hdj
            clear hdj
            go_wp2_with (at_builtin; refine wpList_append_own_spare _ rfl _ _ 33 rfl w1.heap.size 54 i0 3 Try.underlying33 hi hz1 w1.heap.size (R.length + (n - i)) (n + m) _ rfl own5 adb (m - j) (d - j) (rcells ((us.map Rw.raw).drop j)) (HX2.out _ (by first | rfl | exact (if_pos HDJ.out).symm | exact (if_neg HDJ.out).symm)) HLB.out (HNB.out _ HW5.out) (rcells_one _) (by omega) ?_)
            intro w6 own6 gr6
            have hl5 : (R ++ ts.drop i).length = R.length + (n - i) := by rw [List.length_append, List.length_drop, ← HN.out]
            have M6 : Making w.heap.size w1.heap.size w6 (n + m) (R ++ ts.drop i ++ us.drop j) (N1 + N2) := making_rest HR.out.hlo M5.out H2.out (by omega) (Nat.le_refl _) HW5.out HM.out gr6 (by rw [hl5, List.map_append, List.map_drop, rcells_append, List.append_assoc]; exact own6)
            have b6 : Below w1.heap.size w1 w6 := HB5.out.grown gr6 HB5.out.size (fun x hx => by cases hx; exact Nat.le_refl _)
            have HW6 := HW5.out.grown gr6 HW5.out.size (fun x hx => by cases hx; exact HR.out.hlo)
            have hl6 : (R ++ ts.drop i ++ us.drop j).length = R.length + (n - i) + (m - j) := by rw [List.length_append, hl5, List.length_drop, ← HM.out]
            have D := HR.out.st.done HEND.out
            have HF : Hid (GaveC (IsUnion (ts.map Rw.rn) (us.map Rw.rn)) (N1 + N2) w (w6.setCell ⟨w.heap.size + 1 + 1, 0, none⟩ (.slice (some ⟨w1.heap.size, 0, none⟩) (R.length + (n - i) + (m - j)) (n + m))) (.returned (.agg #[.slice (some ⟨w1.heap.size, 0, none⟩) (R.length + (n - i) + (m - j)) (n + m)]))) := by
              have k := making_done (p := ⟨w.heap.size + 1 + 1, 0, none⟩) (v := .slice (some ⟨w1.heap.size, 0, none⟩) (R.length + (n - i) + (m - j)) (n + m)) (q := IsUnion (ts.map Rw.rn) (us.map Rw.rn)) M6 (by simp only; omega) (by rw [HZ.out]; simp only; omega) HW6 (by simp only; omega) (by rw [hl6]; omega) (by rw [hl6]; omega) (by rw [List.map_append, List.map_append]; exact D.1) (by rw [List.map_append, List.map_append]; exact D.2)
              rw [hl6] at k; exact k
            have v2 : w6.cell? ⟨w.heap.size + 1 + 1, 0, none⟩ = some (.slice none 0 0) := by rw [b6.cell (p := ⟨w.heap.size + 1 + 1, 0, none⟩) (by rw [HZ.out]; simp only; omega)]; exact HK.out.2.2.1
            have vf : w6.frozen? ⟨w.heap.size + 1 + 1, 0, none⟩ = false := by rw [b6.frozen (p := ⟨w.heap.size + 1 + 1, 0, none⟩) (by rw [HZ.out]; simp only; omega)]; exact HK.out.2.2.2
            have v3 := World.cell?_setCell_same _ _ (.slice (some ⟨w1.heap.size, 0, none⟩) (R.length + (n - i) + (m - j)) (n + m)) v2
            have V3 : Hid ((w6.setCell ⟨w.heap.size + 1 + 1, 0, none⟩ (.slice (some ⟨w1.heap.size, 0, none⟩) (R.length + (n - i) + (m - j)) (n + m))).cell? ⟨w.heap.size + 1 + 1, 0, none⟩ = some (.slice (some ⟨w1.heap.size, 0, none⟩) (R.length + (n - i) + (m - j)) (n + m))) := v3
            clear D M6 b6 HW6 hl5 hl6 own5 own6 gr6 c5 v3
            go_wp2_with fail
            refine bodyPost_ret (v := .agg #[.slice (some ⟨w1.heap.size, 0, none⟩) (R.length + (n - i) + (m - j)) (n + m)]) ?_ rfl ?_
            · have V := V3.out
              simp [results, Try.results15, go_sem, V, Result.andThen]
            · exact HF.out
          · have hdT : (d = j) = False := eq_false hdj
            have HDJ : Hid (¬ d = j) := hdj
            clear hdj
            go_wp2_with (at_builtin; refine wpList_append_own_spare _ rfl _ _ 33 rfl w1.heap.size 54 i0 3 Try.underlying33 hi hz1 w1.heap.size (R.length + (n - i)) (n + m) _ rfl own5 adb (m - j) (d - j) (rcells ((us.map Rw.raw).drop j)) (HX2.out _ (by first | rfl | exact (if_pos HDJ.out).symm | exact (if_neg HDJ.out).symm)) HLB.out (HNB.out _ HW5.out) (rcells_one _) (by omega) ?_)
            intro w6 own6 gr6
            have hl5 : (R ++ ts.drop i).length = R.length + (n - i) := by rw [List.length_append, List.length_drop, ← HN.out]
            have M6 : Making w.heap.size w1.heap.size w6 (n + m) (R ++ ts.drop i ++ us.drop j) (N1 + N2) := making_rest HR.out.hlo M5.out H2.out (by omega) (Nat.le_refl _) HW5.out HM.out gr6 (by rw [hl5, List.map_append, List.map_drop, rcells_append, List.append_assoc]; exact own6)
            have b6 : Below w1.heap.size w1 w6 := HB5.out.grown gr6 HB5.out.size (fun x hx => by cases hx; exact Nat.le_refl _)
            have HW6 := HW5.out.grown gr6 HW5.out.size (fun x hx => by cases hx; exact HR.out.hlo)
            have hl6 : (R ++ ts.drop i ++ us.drop j).length = R.length + (n - i) + (m - j) := by rw [List.length_append, hl5, List.length_drop, ← HM.out]
            have D := HR.out.st.done HEND.out
            have HF : Hid (GaveC (IsUnion (ts.map Rw.rn) (us.map Rw.rn)) (N1 + N2) w (w6.setCell ⟨w.heap.size + 1 + 1, 0, none⟩ (.slice (some ⟨w1.heap.size, 0, none⟩) (R.length + (n - i) + (m - j)) (n + m))) (.returned (.agg #[.slice (some ⟨w1.heap.size, 0, none⟩) (R.length + (n - i) + (m - j)) (n + m)]))) := by
              have k := making_done (p := ⟨w.heap.size + 1 + 1, 0, none⟩) (v := .slice (some ⟨w1.heap.size, 0, none⟩) (R.length + (n - i) + (m - j)) (n + m)) (q := IsUnion (ts.map Rw.rn) (us.map Rw.rn)) M6 (by simp only; omega) (by rw [HZ.out]; simp only; omega) HW6 (by simp only; omega) (by rw [hl6]; omega) (by rw [hl6]; omega) (by rw [List.map_append, List.map_append]; exact D.1) (by rw [List.map_append, List.map_append]; exact D.2)
              rw [hl6] at k; exact k
            have v2 : w6.cell? ⟨w.heap.size + 1 + 1, 0, none⟩ = some (.slice none 0 0) := by rw [b6.cell (p := ⟨w.heap.size + 1 + 1, 0, none⟩) (by rw [HZ.out]; simp only; omega)]; exact HK.out.2.2.1
            have vf : w6.frozen? ⟨w.heap.size + 1 + 1, 0, none⟩ = false := by rw [b6.frozen (p := ⟨w.heap.size + 1 + 1, 0, none⟩) (by rw [HZ.out]; simp only; omega)]; exact HK.out.2.2.2
            have v3 := World.cell?_setCell_same _ _ (.slice (some ⟨w1.heap.size, 0, none⟩) (R.length + (n - i) + (m - j)) (n + m)) v2
            have V3 : Hid ((w6.setCell ⟨w.heap.size + 1 + 1, 0, none⟩ (.slice (some ⟨w1.heap.size, 0, none⟩) (R.length + (n - i) + (m - j)) (n + m))).cell? ⟨w.heap.size + 1 + 1, 0, none⟩ = some (.slice (some ⟨w1.heap.size, 0, none⟩) (R.length + (n - i) + (m - j)) (n + m))) := v3
            clear D M6 b6 HW6 hl5 hl6 own5 own6 gr6 c5 v3
            go_wp2_with fail
            refine bodyPost_ret (v := .agg #[.slice (some ⟨w1.heap.size, 0, none⟩) (R.length + (n - i) + (m - j)) (n + m)]) ?_ rfl ?_
            · have V := V3.out
              simp [results, Try.results15, go_sem, V, Result.andThen]
            · exact HF.out
        · have hcT : (c = i) = False := eq_false hci
          have HCI : Hid (¬ c = i) := hci
          clear hci
          have hx1 : ∀ z, z = (if c = i then (some ⟨b1, o1, none⟩ : Option Addr) else some ⟨b1, o1 + i * 3, none⟩) → Value.slice z (n - i) (c - i) = .slice (some ada) (n - i) (c - i) := fun z hz => by rw [hz, hada]
          have hx2 : ∀ z, z = (if d = j then (some ⟨b2, o2, none⟩ : Option Addr) else some ⟨b2, o2 + j * 3, none⟩) → Value.slice z (m - j) (d - j) = .slice (some adb) (m - j) (d - j) := fun z hz => by rw [hz, hadb]
          have HX1 : Hid (∀ z, z = (if c = i then (some ⟨b1, o1, none⟩ : Option Addr) else some ⟨b1, o1 + i * 3, none⟩) → Value.slice z (n - i) (c - i) = .slice (some ada) (n - i) (c - i)) := hx1
          have HX2 : Hid (∀ z, z = (if d = j then (some ⟨b2, o2, none⟩ : Option Addr) else some ⟨b2, o2 + j * 3, none⟩) → Value.slice z (m - j) (d - j) = .slice (some adb) (m - j) (d - j)) := hx2
          clear hx1 hx2 hada hadb
          go_wp2_with (at_builtin; refine wpList_append_own_spare _ rfl _ _ 33 rfl w1.heap.size 54 i0 3 Try.underlying33 hi hz1 w1.heap.size R.length (n + m) _ rfl hown ada (n - i) (c - i) (rcells ((ts.map Rw.raw).drop i)) (HX1.out _ (by first | rfl | exact (if_neg (by omega)).symm | exact (if_pos HCI.out).symm | exact (if_neg HCI.out).symm)) HLA.out newa (rcells_one _) (by omega) ?_)
          intro w5 own5 gr5
          have M5 : Hid (Making w.heap.size w1.heap.size w5 (n + m) (R ++ ts.drop i) (N1 + N2)) := making_rest HR.out.hlo HR.out.making H1.out (by omega) (Nat.le_refl _) HWR.out HN.out gr5 own5
          have b5 : Below w1.heap.size w1 w5 := HR.out.below.grown gr5 HR.out.size (fun x hx => by cases hx; exact Nat.le_refl _)
          have HW5 : Hid (Below w.heap.size w w5) := HWR.out.grown gr5 HWR.out.size (fun x hx => by cases hx; exact HR.out.hlo)
          have c5 : w5.cell? ⟨w.heap.size + 1, 0, none⟩ = some (.slice (some ⟨b2, o2, none⟩) m d) := by rw [b5.cell (p := ⟨w.heap.size + 1, 0, none⟩) (by rw [HZ.out]; simp only; omega)]; exact HK.out.2.1
          have HB5 : Hid (Below w1.heap.size w1 w5) := b5
          clear c0 c1 newa hown gr5 b5
          rcases Classical.em (d = j) with hdj | hdj
          · have hdT : (d = j) = True := eq_true hdj
            have HDJ : Hid (d = j) := hdj
            clear hdj
            go_wp2_with (at_builtin; refine wpList_append_own_spare _ rfl _ _ 33 rfl w1.heap.size 54 i0 3 Try.underlying33 hi hz1 w1.heap.size (R.length + (n - i)) (n + m) _ rfl own5 adb (m - j) (d - j) (rcells ((us.map Rw.raw).drop j)) (HX2.out _ (by first | rfl | exact (if_pos HDJ.out).symm | exact (if_neg HDJ.out).symm)) HLB.out (HNB.out _ HW5.out) (rcells_one _) (by omega) ?_)
            intro w6 own6 gr6
            have hl5 : (R ++ ts.drop i).length = R.length + (n - i) := by rw [List.length_append, List.length_drop, ← HN.out]
            have M6 : Making w.heap.size w1.heap.size w6 (n + m) (R ++ ts.drop i ++ us.drop j) (N1 + N2) := making_rest HR.out.hlo M5.out H2.out (by omega) (Nat.le_refl _) HW5.out HM.out gr6 (by rw [hl5, List.map_append, List.map_drop, rcells_append, List.append_assoc]; exact own6)
            have b6 : Below w1.heap.size w1 w6 := HB5.out.grown gr6 HB5.out.size (fun x hx => by cases hx; exact Nat.le_refl _)
            have HW6 := HW5.out.grown gr6 HW5.out.size (fun x hx => by cases hx; exact HR.out.hlo)
            have hl6 : (R ++ ts.drop i ++ us.drop j).length = R.length + (n - i) + (m - j) := by rw [List.length_append, hl5, List.length_drop, ← HM.out]
            have D := HR.out.st.done HEND.out
            have HF : Hid (GaveC (IsUnion (ts.map Rw.rn) (us.map Rw.rn)) (N1 + N2) w (w6.setCell ⟨w.heap.size + 1 + 1, 0, none⟩ (.slice (some ⟨w1.heap.size, 0, none⟩) (R.length + (n - i) + (m - j)) (n + m))) (.returned (.agg #[.slice (some ⟨w1.heap.size, 0, none⟩) (R.length + (n - i) + (m - j)) (n + m)]))) := by
              have k := making_done (p := ⟨w.heap.size + 1 + 1, 0, none⟩) (v := .slice (some ⟨w1.heap.size, 0, none⟩) (R.length + (n - i) + (m - j)) (n + m)) (q := IsUnion (ts.map Rw.rn) (us.map Rw.rn)) M6 (by simp only; omega) (by rw [HZ.out]; simp only; omega) HW6 (by simp only; omega) (by rw [hl6]; omega) (by rw [hl6]; omega) (by rw [List.map_append, List.map_append]; exact D.1) (by rw [List.map_append, List.map_append]; exact D.2)
              rw [hl6] at k; exact k
            have v2 : w6.cell? ⟨w.heap.size + 1 + 1, 0, none⟩ = some (.slice none 0 0) := by rw [b6.cell (p := ⟨w.heap.size + 1 + 1, 0, none⟩) (by rw [HZ.out]; simp only; omega)]; exact HK.out.2.2.1
            have vf : w6.frozen? ⟨w.heap.size + 1 + 1, 0, none⟩ = false := by rw [b6.frozen (p := ⟨w.heap.size + 1 + 1, 0, none⟩) (by rw [HZ.out]; simp only; omega)]; exact HK.out.2.2.2
            have v3 := World.cell?_setCell_same _ _ (.slice (some ⟨w1.heap.size, 0, none⟩) (R.length + (n - i) + (m - j)) (n + m)) v2
            have V3 : Hid ((w6.setCell ⟨w.heap.size + 1 + 1, 0, none⟩ (.slice (some ⟨w1.heap.size, 0, none⟩) (R.length + (n - i) + (m - j)) (n + m))).cell? ⟨w.heap.size + 1 + 1, 0, none⟩ = some (.slice (some ⟨w1.heap.size, 0, none⟩) (R.length + (n - i) + (m - j)) (n + m))) := v3
            clear D M6 b6 HW6 hl5 hl6 own5 own6 gr6 c5 v3
            go_wp2_with fail
            refine bodyPost_ret (v := .agg #[.slice (some ⟨w1.heap.size, 0, none⟩) (R.length + (n - i) + (m - j)) (n + m)]) ?_ rfl ?_
            · have V := V3.out
              simp [results, Try.results15, go_sem, V, Result.andThen]
            · exact HF.out
          · have hdT : (d = j) = False := eq_false hdj
            have HDJ : Hid (¬ d = j) := hdj
            clear hdj
            go_wp2_with (at_builtin; refine wpList_append_own_spare _ rfl _ _ 33 rfl w1.heap.size 54 i0 3 Try.underlying33 hi hz1 w1.heap.size (R.length + (n - i)) (n + m) _ rfl own5 adb (m - j) (d - j) (rcells ((us.map Rw.raw).drop j)) (HX2.out _ (by first | rfl | exact (if_pos HDJ.out).symm | exact (if_neg HDJ.out).symm)) HLB.out (HNB.out _ HW5.out) (rcells_one _) (by omega) ?_)
            intro w6 own6 gr6
            have hl5 : (R ++ ts.drop i).length = R.length + (n - i) := by rw [List.length_append, List.length_drop, ← HN.out]
            have M6 : Making w.heap.size w1.heap.size w6 (n + m) (R ++ ts.drop i ++ us.drop j) (N1 + N2) := making_rest HR.out.hlo M5.out H2.out (by omega) (Nat.le_refl _) HW5.out HM.out gr6 (by rw [hl5, List.map_append, List.map_drop, rcells_append, List.append_assoc]; exact own6)
            have b6 : Below w1.heap.size w1 w6 := HB5.out.grown gr6 HB5.out.size (fun x hx => by cases hx; exact Nat.le_refl _)
            have HW6 := HW5.out.grown gr6 HW5.out.size (fun x hx => by cases hx; exact HR.out.hlo)
            have hl6 : (R ++ ts.drop i ++ us.drop j).length = R.length + (n - i) + (m - j) := by rw [List.length_append, hl5, List.length_drop, ← HM.out]
            have D := HR.out.st.done HEND.out
            have HF : Hid (GaveC (IsUnion (ts.map Rw.rn) (us.map Rw.rn)) (N1 + N2) w (w6.setCell ⟨w.heap.size + 1 + 1, 0, none⟩ (.slice (some ⟨w1.heap.size, 0, none⟩) (R.length + (n - i) + (m - j)) (n + m))) (.returned (.agg #[.slice (some ⟨w1.heap.size, 0, none⟩) (R.length + (n - i) + (m - j)) (n + m)]))) := by
              have k := making_done (p := ⟨w.heap.size + 1 + 1, 0, none⟩) (v := .slice (some ⟨w1.heap.size, 0, none⟩) (R.length + (n - i) + (m - j)) (n + m)) (q := IsUnion (ts.map Rw.rn) (us.map Rw.rn)) M6 (by simp only; omega) (by rw [HZ.out]; simp only; omega) HW6 (by simp only; omega) (by rw [hl6]; omega) (by rw [hl6]; omega) (by rw [List.map_append, List.map_append]; exact D.1) (by rw [List.map_append, List.map_append]; exact D.2)
              rw [hl6] at k; exact k
            have v2 : w6.cell? ⟨w.heap.size + 1 + 1, 0, none⟩ = some (.slice none 0 0) := by rw [b6.cell (p := ⟨w.heap.size + 1 + 1, 0, none⟩) (by rw [HZ.out]; simp only; omega)]; exact HK.out.2.2.1
            have vf : w6.frozen? ⟨w.heap.size + 1 + 1, 0, none⟩ = false := by rw [b6.frozen (p := ⟨w.heap.size + 1 + 1, 0, none⟩) (by rw [HZ.out]; simp only; omega)]; exact HK.out.2.2.2
            have v3 := World.cell?_setCell_same _ _ (.slice (some ⟨w1.heap.size, 0, none⟩) (R.length + (n - i) + (m - j)) (n + m)) v2
            have V3 : Hid ((w6.setCell ⟨w.heap.size + 1 + 1, 0, none⟩ (.slice (some ⟨w1.heap.size, 0, none⟩) (R.length + (n - i) + (m - j)) (n + m))).cell? ⟨w.heap.size + 1 + 1, 0, none⟩ = some (.slice (some ⟨w1.heap.size, 0, none⟩) (R.length + (n - i) + (m - j)) (n + m))) := v3
            clear D M6 b6 HW6 hl5 hl6 own5 own6 gr6 c5 v3
            go_wp2_with fail
            refine bodyPost_ret (v := .agg #[.slice (some ⟨w1.heap.size, 0, none⟩) (R.length + (n - i) + (m - j)) (n + m)]) ?_ rfl ?_
            · have V := V3.out
              simp [results, Try.results15, go_sem, V, Result.andThen]
            · exact HF.out
end Go.Proofs.Qxb6620807a
