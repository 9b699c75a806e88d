import Derived.Test.Qxb6618426aWalk4
import Derived.Deep.DeepCutAuto
import Derived.Deep.Cut
import Derived.Deep.CutRange
namespace Go.Proofs.Qxb6618426a
open Go.RowKit

theorem kept_heads {w : World} (bl : Int) (a1 a2 a3 a4 : Option Addr) (n1 c1 n2 c2 n3 c3 n4 c4 : Nat) :
    let w' := w.alloc (.cells #[.int .i32 bl, .slice a1 n1 c1, .slice a2 n2 c2, .slice a3 n3 c3, .slice a4 n4 c4] 72)
    w'.cell? ⟨w.heap.size, 0, none⟩ = some (.int .i32 bl) ∧ w'.cell? ⟨w.heap.size, 1, none⟩ = some (.slice a1 n1 c1) ∧ w'.cell? ⟨w.heap.size, 2, none⟩ = some (.slice a2 n2 c2) ∧
      w'.cell? ⟨w.heap.size, 3, none⟩ = some (.slice a3 n3 c3) ∧ w'.cell? ⟨w.heap.size, 4, none⟩ = some (.slice a4 n4 c4) := by
  refine ⟨?_, ?_, ?_, ?_, ?_⟩ <;> simp

set_option maxHeartbeats 4000000 in
set_option maxRecDepth 100000 in
theorem walk4 (ga ea ra qa : Option Addr) (G gc E ec R rc Q qc : Nat) (pa la : Nat → Option Addr) (pn pc ln lc : Nat → Nat) (gs : Nat → Int) (ps : Nat → Nat → ByteArray) (lf : Nat → Nat → Int) (rf : Nat → Int) (qs : Nat → ByteArray)
    (W C bl : Nat) (kp ub ks : Bool) (w : World) (h : Args w ga ea ra qa G E R Q pa la pn pc ln lc gs ps lf rf qs)
    (hW0 : 0 < W) (hW1 : W ≤ 64) (hC : C ≤ E) (hbl : bl ≤ E) :
    Calls Try.prog 4 #[.slice ga G gc, .slice ea E ec, .slice ra R rc, .slice qa Q qc, .int .i64 W, .int .i64 C, .bool kp, .int .i32 bl, .bool ub, .bool ks] w fun e w' => e = .returned (.bool true) ∧ Below w.heap.size w w' := by
  go_enter Try.func4, Try.ntmps4
  go_wp2_with fail
  refine (bytes2_any _ _ _ _ _ _ _ _ _ _ _ _ _ _ _ _ _ _ _ _ _ _ _ _ _ _ _ _ _ h.g h.e h.q).mono ?_
  rintro e w1 ⟨⟨r, rfl, hS⟩, hw⟩
  subst hw
  cases r with
  | false =>
    go_wp2_with fail
    go_ret
    exact ⟨rfl, Below.refl _ _⟩
  | true =>
  have S := hS rfl
  have sE := S.e
  have sR := S.r
  clear hS
  go_wp2_with fail
  refine (sizeOK_any _ _ _ _ _ _ _ _ _ _ _ _ _ _ _ _ _ _ _ _ _ _ _ h.g h.e h.q S).mono ?_
  rintro e w2 ⟨⟨r, rfl, _⟩, hw⟩
  subst hw
  cases r with
  | false =>
    go_wp2_with fail
    go_ret
    exact ⟨rfl, Below.refl _ _⟩
  | true =>
  go_wp2_with fail
  refine (domainOK_any _ _ _ _ _ _ _ _ _ _ _ _ _ _ _ _ _ _ _ _ _ h.g h.e h.r S h.gw).mono ?_
  rintro e w3 ⟨⟨r, rfl, hD⟩, hw⟩
  cases r with
  | false =>
    go_wp2_with fail
    go_ret
    exact ⟨rfl, below_dr (Below.refl _ _) hw⟩
  | true =>
  have DM := hD rfl
  have b3 : Below w2.heap.size w2 w3 := below_dr (Below.refl _ _) hw
  have h3 := h.below b3
  clear hD hw h
  go_wp2_with fail
  refine (build_any _ _ _ _ _ _ _ _ _ h3.g S.g S.p).mono ?_
  rintro e w4 ⟨rfl, D, E', HB⟩
  -- what follows from the grants and the sets alone
  have hsets : ∀ k, k < D.length → ∃ s : Nat, s < E ∧ E' k = s := by
    intro k hk
    rw [HB.ends k hk]
    rcases lastSet_or (pn := pn) (gs := gs) (ps := ps) (x := G) (p := D.getD k []) with e | ⟨i, hi, _, e, _⟩
    · exact ⟨0, DM.e0, e⟩
    · have := DM.gs i hi
      exact ⟨(gs i).toNat, by omega, by omega⟩
  have hmono : ∀ s, s < E → Mono (ln s) (lf s) := fun s hs => mono_of_sorted (DM.ls s hs)
  have hmr : Mono R rf := mono_of_sorted DM.rs
  have HEQ : covB D E' (shareB ln lf R rf) (segs Q qs) [] = modelB G pn gs ps ln lf R rf Q qs := by
    refine covers_is_model HB.paths HB.mem HB.ends (fun k hk => rfl) ?_
    rw [← Bool.not_eq_true, shareB_iff (hmono 0 DM.e0) hmr]
    rintro ⟨i, j, hi, _, _⟩
    rw [DM.l0] at hi; omega
  have hroot : ptr w3.heap.size D [] = .pointer (some ⟨w3.heap.size + 1, 0, none⟩) := by
    obtain ⟨h0, h1⟩ := List.getElem?_eq_some_iff.1 HB.paths.rt
    have hm : ([] : Pth) ∈ D := h1 ▸ List.getElem_mem h0
    have hix : ix D [] = 0 := by have := ix_at HB.paths.nd h0; rw [h1] at this; exact this
    rw [ptr_at hm, hix]
  -- the check itself, in any world where the tree and the heads lie
  have COV : Hid (∀ (w9 : World) (tb rb : Nat) (ea' : Option Addr) (ec' : Nat) (la' : Nat → Option Addr) (lc' : Nat → Nat) (fa : Option Addr) (C' fc : Nat) (ra' : Option Addr) (rc' : Nat) (k : Option Addr) (qa' : Option Addr) (qc' : Nat),
      Tree w9 w3.heap.size D E' → TreeHead w9 tb ea' E ec' fa C' fc → RolesHead w9 rb ra' R rc' k → ListsAt w9 ea' E la' ln lc' lf → RowAt w9 ra' R (fun j => .int .i32 (rf j)) → FiltersAt w9 fa C' W ln lf →
      (k = none ∨ ∃ kb, k = some ⟨kb, 0, none⟩ ∧ KeptAt w9 kb bl C' W (shareB ln lf R rf) R rf) → RowAt w9 qa' Q (fun j => .string (qs j)) → Q ≤ qc' →
      Calls Try.prog 13 #[.pointer (some ⟨tb, 0, none⟩), .pointer (some ⟨w3.heap.size + 1, 0, none⟩), .slice qa' Q qc', .pointer (some ⟨rb, 0, none⟩)] w9 fun e w' => e = .returned (.bool (modelB G pn gs ps ln lf R rf Q qs)) ∧ ∃ q, w' = w9.drewN q) := by
    intro w9 tb rb ea' ec' la' lc' fa C' fc ra' rc' k qa' qc' T9 t9 u9 he9 hr9 hF9 hk9 hq9 hqc
    refine covers13 _ _ _ _ _ _ _ _ ?_
    have HC := covers_any tb rb w3.heap.size D E' (shareB ln lf R rf) w9 T9 (fun w hd j hj => by
      obtain ⟨s, hs, e⟩ := hsets j hj
      have hb : Below w9.heap.size w9 w := below_dr (Below.refl _ _) hd
      rw [e]
      refine reaches_any _ _ s _ _ _ _ _ _ _ _ _ W bl _ _ _ _ _ k w hs S.e S.l S.r hW0 hW1 (by omega) (t9.below hb) (u9.below hb) (he9.below hb) (hr9.below hb) (hF9.below hb) (hmono s hs) hmr ?_
      rcases hk9 with h | ⟨kb, h, K⟩
      · exact Or.inl h
      · exact Or.inr ⟨kb, h, K.low hb⟩) Q S.q qa' qc' qs [] w9 (Dr.refl _) hq9 hqc
    rw [hroot, HEQ] at HC
    exact HC
  have b4 := HB.below
  have h4 := h3.below b4
  have T4 := HB.tree
  clear hroot HEQ hsets HB h3
  go_wp2_with fail
  refine (cloneLists_any _ _ _ _ _ _ _ _ S.e S.l h4.e0 h4.l0 h4.e).mono ?_
  rintro e w5 ⟨ea', ec', la', lc', rfl, he5, b5⟩
  have T5 := T4.below b5
  have h5 := h4.below b5
  go_wp2_with fail
  refine (newTree_any _ _ _ _ _ _ _).mono ?_
  rintro e w6 ⟨rfl, hw6⟩
  have t6 : TreeHead w6 w5.heap.size ea' E ec' none 0 0 := by rw [hw6]; exact cover_heads _ _ _ _ _ _
  have b6 : Below w5.heap.size w5 w6 := by rw [hw6]; exact (Below.refl _ _).alloc (Nat.le_refl _) _
  clear hw6
  have T6 := T5.below b6
  have h6 := h5.below b6
  have he6 := he5.below b6
  clear T4 T5 h4 he5 h5
  go_wp2_with fail
  refine (cloneInts_any _ _ _ _ _ S.r h6.r0 h6.r).mono ?_
  rintro e w7 ⟨ra', rc', rfl, hr7, b7, _⟩
  have T7 := T6.below b7
  have h7 := h6.below b7
  have he7 := he6.below b7
  have t7 := t6.below b7
  clear T6 h6 he6 t6
  go_wp2_with fail
  refine (newRoles_any _ _ _ _ _).mono ?_
  rintro e w8 ⟨rfl, hw8⟩
  have u8 : RolesHead w8 w7.heap.size ra' R rc' none := by rw [hw8]; exact role_heads _ _ _ _
  have b8 : Below w7.heap.size w7 w8 := by rw [hw8]; exact (Below.refl _ _).alloc (Nat.le_refl _) _
  clear hw8
  have T8 := T7.below b8
  have h8 := h7.below b8
  have he8 := he7.below b8
  have t8 := t7.below b8
  have hr8 := hr7.below b8
  clear T7 h7 he7 t7 hr7
  go_wp2_with fail
  refine (cloneStrs_any _ _ _ _ _ S.q h8.q0 h8.q).mono ?_
  rintro e w9 ⟨qa', qc', rfl, hq9, b9, hqc⟩
  have T9 := T8.below b9
  have h9 := h8.below b9
  have he9 := he8.below b9
  have t9 := t8.below b9
  have hr9 := hr8.below b9
  have u9 := u8.below b9
  clear T8 h8 he8 t8 hr8 u8
  have B9 : Below w2.heap.size w2 w9 := by
    have s3 := b3.size; have s4 := b4.size; have s5 := b5.size; have s6 := b6.size; have s7 := b7.size; have s8 := b8.size
    exact ((((((b3.trans (b4.mono s3)).trans (b5.mono (by omega))).trans (b6.mono (by omega))).trans (b7.mono (by omega))).trans (b8.mono (by omega))).trans (b9.mono (by omega)))
  have HC := COV.out w9 w5.heap.size w7.heap.size ea' ec' la' lc' none 0 0 ra' rc' none qa' qc' T9 t9 u9 he9 hr9 ⟨fun _ => ⟨0, 0, none⟩, ⟨0, 0, fun hh => by omega, fun j hj => by omega⟩, fun i hi => by omega⟩ (Or.inl rfl) hq9 hqc
  clear t9 u9 he9 hr9 hq9 b3 b4 b5 b6 b7 b8 b9 hqc
  go_wp2_with fail
  refine HC.mono ?_
  rintro e w10 ⟨rfl, hw10⟩
  have b10 : Below w9.heap.size w9 w10 := below_dr (Below.refl _ _) hw10
  have h10 := h9.below b10
  have T10 := T9.below b10
  have B10 : Below w2.heap.size w2 w10 := below_dr B9 hw10
  clear HC h9 T9 b10 B9 hw10
  obtain ⟨M, hM⟩ : ∃ M, modelB G pn gs ps ln lf R rf Q qs = M := ⟨_, rfl⟩
  rw [hM]
  rw [hM] at COV
  have hM : Hid (modelB G pn gs ps ln lf R rf Q qs = M) := hM
  go_wp2_with fail
  refine (cloneLists_any _ _ _ _ _ _ _ _ S.e S.l h10.e0 h10.l0 h10.e).mono ?_
  rintro e w11 ⟨ea2, ec2, la2, lc2, rfl, he11, b11⟩
  have T11 := T10.below b11
  have h11 := h10.below b11
  have B11 := B10.trans (b11.mono B10.size)
  clear T10 h10 b11 B10
  go_wp2_with fail
  refine (cloneInts_any _ _ _ _ _ S.r h11.r0 h11.r).mono ?_
  rintro e w12 ⟨ra2, rc2, rfl, hr12, b12, _⟩
  have T12 := T11.below b12
  have h12 := h11.below b12
  have he12 := he11.below b12
  have B12 := B11.trans (b12.mono B11.size)
  clear T11 h11 he11 b12 B11
  have hmk := run_make_row' (P := Try.prog) 39 41 (.slice none 0 0) 24 Try.underlying39 Try.info41 rfl .i64 .i64 C (by omega) (by omega)
  go_wp2_with fail
  clear hmk
  go_loopw [28] (fun i wr => ∃ (k : Nat) (ff : Nat → Addr), k ≤ C ∧ i = .int .i64 k ∧ FillF w12 wr C W ln lf ff k) (fun i _ => C - (intOf i).toNat)
  case atStart => exact ⟨0, fun _ => ⟨0, 0, none⟩, by omega, rfl, FillF.start _ _ _ _ _ _⟩
  case round =>
    obtain ⟨k, ff, hk, rfl, HF⟩ := hrel
    by_cases hlt : k < C
    · obtain ⟨⟨eb, eo, hea2, hec2⟩, hel2⟩ := he12
      obtain rfl := hea2 (by omega)
      have c1 : wr.cell? ⟨eb, eo + k, none⟩ = some (.slice (la2 k) (ln k) (lc2 k)) := by
        rw [HF.below.cell (p := ⟨eb, eo + k, none⟩) (World.block_lt_of_cell? _ _ (hec2 k (by omega)))]; exact hec2 k (by omega)
      have r1 : RowAt wr (la2 k) (ln k) (fun j => .int .i32 (lf k j)) := (hel2 k (by omega)).below HF.below
      have l1 := S.l k (by omega)
      have hlt' := HF.row.lt
      clear hec2 hel2 hea2
      go_wp2_with fail
      refine (filterOf_any _ _ _ _ _ _ l1 hW0 hW1 r1).mono ?_
      rintro e w13 ⟨rfl, hb1, hfo⟩
      have hrow1 := HF.row.of_block (hb1.block _ hlt')
      have c2 : w13.cell? ⟨w12.heap.size, k, none⟩ = some (.slice none 0 0) := by simpa using hrow1.cell hlt
      have c3 : w13.frozen? ⟨w12.heap.size, k, none⟩ = false := hrow1.frozen k
      obtain ⟨ff', HN⟩ := HF.next hb1 (ad := ⟨wr.heap.size, 0, none⟩) hfo
      clear hrow1 HF hfo
      go_wp2_with fail
      go_roundw
      case rel => exact ⟨k + 1, ff', by omega, by go_num, HN⟩
      case measure => simp only [intOf]; omega
    · obtain rfl : C = k := by omega
      obtain ⟨w13, rfl⟩ : ∃ x, x = wr := ⟨_, rfl⟩
      have hF13 := HF.done
      have b13 := HF.below
      have B13 := B12.trans (b13.mono B12.size)
      have T13 := T12.below b13
      have h13 := h12.below b13
      have he13 := he12.below b13
      have hr13 := hr12.below b13
      clear HF T12 h12 he12 hr12 B12 b13 hlt hk
      go_upto_if 119 with fail
      go_cut [29] (fun kv wc => Below w13.heap.size w13 wc ∧ ∃ kx : Option Addr, kv = .pointer kx ∧ (kx = none ∨ ∃ kb, kx = some ⟨kb, 0, none⟩ ∧ KeptAt wc kb bl C W (shareB ln lf R rf) R rf))
      case first =>
        cases kp with
        | false =>
          go_wp2_with fail
          go_meet
          case rel => exact ⟨Below.refl _ _, none, rfl, Or.inl rfl⟩
        | true =>
        cases ub with
        | true =>
          have hmk := run_make_row' (P := Try.prog) 40 45 (.int .u64 0) 8 Try.underlying40 Try.info45 rfl .i64 .i64 ((bl + 63) / 64) (by omega) (by omega)
          have ec : (((bl + 63) / 64 : Nat) : Int) = ((bl : Int) + 63) / 64 := by omega
          rw [ec] at hmk
          clear ec
          go_wp2_with fail
          clear hmk
          go_loopw [31, 32] (fun ids i wx => ∃ (k : Nat) (F : Nat → Int), k ≤ bl ∧ i = .int .i32 k ∧ ids = .slice none 0 0 ∧ FillB w13 wx ((bl + 63) / 64) (shareB ln lf R rf) F k) (fun _ i _ => bl - (intOf i).toNat)
          case atStart => exact ⟨0, fun _ => 0, by omega, rfl, rfl, FillB.start _ _ _⟩
          case round =>
            obtain ⟨k, F, hk, rfl, rfl, HF⟩ := hrel
            by_cases hlt : k < bl
            · obtain ⟨⟨eb, eo, hea0, hec0⟩, hel0⟩ := h13.e.below HF.below
              obtain rfl := hea0 (by omega)
              have c1 := hec0 k (by omega)
              have r1 := hel0 k (by omega)
              have l1 := S.l k (by omega)
              have rr := h13.r.below HF.below
              clear hec0 hel0 hea0
              by_cases hsh : shareB ln lf R rf k = true
              · have hsh' : merge (ln k) (lf k) R rf (ln k + R) 0 0 = true := hsh
                have c2 : wr.cell? ⟨w13.heap.size, k / 64, none⟩ = some (.int .u64 (F (k / 64))) := HF.row.cell (by omega)
                have c3 : wr.frozen? ⟨w13.heap.size, k / 64, none⟩ = false := HF.row.frozen _
                have HN := fun q => HF.put ⟨q, rfl⟩ hsh
                clear HF
                go_wp2_with (go_at_call 18; refine (shares_any _ _ _ _ _ _ _ _ _ l1 sR r1 rr).mono ?_; rintro e w' ⟨rfl, q, rfl⟩)
                go_roundw
                case rel =>
                  obtain ⟨F', HN'⟩ := HN q
                  exact ⟨k + 1, F', by omega, by go_num, rfl, HN'⟩
                case measure => simp only [intOf]; omega
              · have hsh' : merge (ln k) (lf k) R rf (ln k + R) 0 0 = false := by simpa [shareB] using hsh
                have HN := fun q => HF.skip ⟨q, rfl⟩ (by simpa using hsh)
                clear HF hsh
                go_wp2_with (go_at_call 18; refine (shares_any _ _ _ _ _ _ _ _ _ l1 sR r1 rr).mono ?_; rintro e w' ⟨rfl, q, rfl⟩)
                go_roundw
                case rel => exact ⟨k + 1, F, by omega, by go_num, rfl, HN q⟩
                case measure => simp only [intOf]; omega
            obtain rfl : bl = k := by omega
            obtain ⟨w14, rfl⟩ : ∃ x, x = wr := ⟨_, rfl⟩
            have KS := HF.done
            have b14 := HF.below
            have h14 := h13.below b14
            have hr14 := hr13.below b14
            clear HF hlt hk
            go_upto_if 154 with fail
            go_cut [33] (fun sv wc => Below w14.heap.size w14 wc ∧ ∃ (sa : Option Addr) (sn sc : Nat), sv = .slice sa sn sc ∧ (sv = .slice none 0 0 ∨ ∃ ad c B, sv = .slice (some ad) W c ∧ FiltAt wc (some ad) W B ∧ ∀ s : Nat, bl ≤ s → s < C → shareB ln lf R rf s = true → B (slotOf W s) = true))
            case first =>
              cases ks with
              | false =>
                go_wp2_with fail
                go_meet
                case rel => exact ⟨Below.refl _ _, none, 0, 0, rfl, Or.inl rfl⟩
              | true =>
              have hmk := run_make_row' (P := Try.prog) 41 45 (.int .u64 0) 8 Try.underlying41 Try.info45 rfl .i64 .i64 W (by omega) (by omega)
              go_wp2_with fail
              clear hmk
              go_loopw [34] (fun i wx => ∃ (k : Nat) (F : Nat → Int), bl ≤ k ∧ (k ≤ C ∨ k = bl) ∧ i = .int .i64 k ∧ Marked w14 wx w14.heap.size W F (fun x => ∃ s : Nat, bl ≤ s ∧ s < k ∧ shareB ln lf R rf s = true ∧ x = s)) (fun i _ => C - (intOf i).toNat)
              case atStart => exact ⟨bl, fun _ => 0, by omega, Or.inr rfl, rfl, (Below.refl _ _).alloc (Nat.le_refl _) _, World.rowIs_made w14 _ W 45, fun x ⟨s, h1, h2, _⟩ => by omega⟩
              case round =>
                obtain ⟨k, F, hk1, hk2, rfl, HM⟩ := hrel
                by_cases hlt : k < C
                · obtain ⟨⟨eb, eo, hea0, hec0⟩, hel0⟩ := h14.e.below HM.below
                  obtain rfl := hea0 (by omega)
                  have c1 := hec0 k (by omega)
                  have r1 := hel0 k (by omega)
                  have l1 := S.l k (by omega)
                  have rr := h14.r.below HM.below
                  clear hec0 hel0 hea0
                  by_cases hsh : shareB ln lf R rf k = true
                  · have hsh' : merge (ln k) (lf k) R rf (ln k + R) 0 0 = true := hsh
                    have HN := HM.next (Nat.le_refl _) (k : Int) (D' := fun x => ∃ s : Nat, bl ≤ s ∧ s < k + 1 ∧ shareB ln lf R rf s = true ∧ x = s) (fun x ⟨s, h1, h2, h3, e⟩ => by
                      by_cases hs : s = k
                      · subst hs; exact Or.inr e
                      · exact Or.inl ⟨s, h1, by omega, h3, e⟩)
                    have hrow : ∀ q, (wr.drewN q).rowIs w14.heap.size 45 W (fun j => .int .u64 (F j)) := fun q => HM.row
                    clear HM
                    go_wp2_with (first
                      | (go_at_call 18; refine (shares_any _ _ _ _ _ _ _ _ _ l1 sR r1 rr).mono ?_; rintro e w' ⟨rfl, q, rfl⟩)
                      | (go_at_call 19; refine (mark_any _ _ _ _ _ _ hW0 hW1 (hrow _)).mono ?_; rintro e w' ⟨rfl, rfl⟩))
                    go_roundw
                    case rel =>
                      obtain ⟨F', HN'⟩ := HN
                      exact ⟨k + 1, F', by omega, by omega, by go_num, below_drewN HN'.below q, HN'.row, HN'.set⟩
                    case measure => simp only [intOf]; omega
                  · have hsh' : merge (ln k) (lf k) R rf (ln k + R) 0 0 = false := by simpa [shareB] using hsh
                    have HN : ∀ q, Marked w14 (wr.drewN q) w14.heap.size W F (fun x => ∃ s : Nat, bl ≤ s ∧ s < k + 1 ∧ shareB ln lf R rf s = true ∧ x = s) := fun q =>
                      ⟨below_drewN HM.below q, HM.row, fun x ⟨s, h1, h2, h3, e⟩ => by
                        by_cases hs : s = k
                        · subst hs; exact absurd h3 hsh
                        · exact HM.set x ⟨s, h1, by omega, h3, e⟩⟩
                    clear HM hsh
                    go_wp2_with (go_at_call 18; refine (shares_any _ _ _ _ _ _ _ _ _ l1 sR r1 rr).mono ?_; rintro e w' ⟨rfl, q, rfl⟩)
                    go_roundw
                    case rel => exact ⟨k + 1, F, by omega, by omega, by go_num, HN q⟩
                    case measure => simp only [intOf]; omega
                · obtain ⟨B, h1, h2⟩ := HM.filt
                  have hb := HM.below
                  clear HM
                  go_wp2_with fail
                  go_meet
                  case rel => exact ⟨hb, some ⟨w14.heap.size, 0, none⟩, W, W, rfl, Or.inr ⟨_, _, B, rfl, h1, fun s g1 g2 g3 => h2 _ ⟨s, g1, by omega, g3, rfl⟩⟩⟩
            case rest =>
              obtain ⟨b15, sa, sn, sc, rfl, hsv⟩ := hcut
              obtain ⟨w15, rfl⟩ : ∃ x, x = wc := ⟨_, rfl⟩
              have hr15 := hr14.below b15
              go_wp2_with fail
              refine (filterOf_any _ _ _ _ _ _ sR hW0 hW1 hr15).mono ?_
              rintro e w16 ⟨rfl, b16, hfo⟩
              go_wp2_with fail
              refine (newKept_any _ _ _ _ _ _ _ _ _ _ _ _ _ _).mono ?_
              rintro e w17 ⟨rfl, hw17⟩
              have b17 : Below w16.heap.size w16 w17 := by rw [hw17]; exact (Below.refl _ _).alloc (Nat.le_refl _) _
              have hd17 := kept_heads (w := w16) (bl : Int) (some ⟨w13.heap.size, 0, none⟩) none sa (some ⟨w15.heap.size, 0, none⟩) ((bl + 63) / 64) ((bl + 63) / 64) 0 0 sn sc W W
              rw [← hw17] at hd17
              clear hw17
              have B17 : Below w13.heap.size w13 w17 := by
                have s14 := b14.size; have s15 := b15.size; have s16 := b16.size
                exact ((b14.trans (b15.mono s14)).trans (b16.mono (by omega))).trans (b17.mono (by omega))
              have K17 : KeptAt w17 w16.heap.size bl C W (shareB ln lf R rf) R rf := by
                obtain ⟨d0, d1, d2, d3, d4⟩ := hd17
                have b1417 : Below w14.heap.size w14 w17 := by
                  have s15 := b15.size; have s16 := b16.size
                  exact (b15.trans (b16.mono s15)).trans (b17.mono (by omega))
                have b1517 : Below w15.heap.size w15 w17 := b16.trans (b17.mono b16.size)
                refine ⟨d0, ?_, ?_, ?_⟩
                · exact Or.inl ⟨_, _, _, _, d1, KS.below b1417, by omega, by omega, fun s hs => by simp [hs]⟩
                · rcases hsv with e | ⟨ad, c, B, e, h2, h3⟩
                  · exact Or.inl (by rw [← e]; exact d3)
                  · exact Or.inr ⟨ad, c, B, by rw [← e]; exact d3, h2.below b1517, h3⟩
                · exact ⟨_, _, d4, FiltOf.below (w := w16) hfo b17⟩
              clear hd17 hfo hsv
              go_wp2_with fail
              go_meet
              case rel => exact ⟨B17, _, rfl, Or.inr ⟨_, rfl, K17⟩⟩
        | false =>
          obtain ⟨i0, hi, hz0, hz1, hz2⟩ := info_parts Try.info21
          go_wp2_with fail
          go_loopw [31, 32] (fun ids i wx => ∃ (k : Nat), k ≤ bl ∧ i = .int .i32 k ∧ wx.ownsRow w13.heap.size 21 1 ids (idsL (shareB ln lf R rf) k).length ((idsL (shareB ln lf R rf) k).map (Value.int .i32)) ∧ Below w13.heap.size w13 wx) (fun _ i _ => bl - (intOf i).toNat)
          case atStart => exact ⟨0, by omega, rfl, World.ownsRow_nil _ _ _ _, Below.refl _ _⟩
          case round =>
            obtain ⟨k, hk, rfl, hown, hnx⟩ := hrel
            by_cases hlt : k < bl
            · obtain ⟨⟨eb, eo, hea0, hec0⟩, hel0⟩ := h13.e.below hnx
              obtain rfl := hea0 (by omega)
              have c1 := hec0 k (by omega)
              have r1 := hel0 k (by omega)
              have l1 := S.l k (by omega)
              have rr := h13.r.below hnx
              have hlen := idsL_len (shareB ln lf R rf) k
              clear hec0 hel0 hea0
              by_cases hsh : shareB ln lf R rf k = true
              · have hsh' : merge (ln k) (lf k) R rf (ln k + R) 0 0 = true := hsh
                go_wp2_with (first
                  | (go_at_call 18; refine (shares_any _ _ _ _ _ _ _ _ _ l1 sR r1 rr).mono ?_; rintro e w' ⟨rfl, q, rfl⟩)
                  | (at_builtin; refine wpList_append_own _ rfl _ _ 24 rfl w13.heap.size 21 i0 (.int .i32 0) 1 4 Try.underlying24 hi hz0 hz1 hz2 rfl (by decide) _ _ _ rfl (World.ownsRow.alloc (w := wr.drewN q) hown _) ⟨wr.heap.size, 0, none⟩ 1 1 [.int .i32 k] rfl rfl ?c1 ?c2 ?c3 ?c4 ?c5 ?_))
                case c1 =>
                  intro j u hj
                  match j, hj with
                  | 0, hj => simp at hj; subst hj; exact cell_new1 wr q _ _
                case c2 => intro u hu; simp at hu; subst hu; rfl
                case c3 => unfold maxLen; omega
                case c4 => omega
                case c5 => have := hnx.size; simp; omega
                intro v' w1 hown' hgrow _
                have HO : Hid (w1.ownsRow w13.heap.size 21 1 v' (idsL (shareB ln lf R rf) (k + 1)).length ((idsL (shareB ln lf R rf) (k + 1)).map (Value.int .i32))) := by
                  unfold Hid; rw [idsL_hit hsh]; simpa using hown'
                have HL : Below w13.heap.size w13 w1 := ((below_drewN hnx q).alloc hnx.size _).grown hgrow (by have := hnx.size; simp; omega) (fun x hx => (hown.lt x hx).1)
                clear hown' hgrow hown hnx rr r1 c1
                go_wp2
                go_roundw
                case rel => exact ⟨k + 1, by omega, by go_num, HO.out, HL⟩
                case measure => simp only [intOf]; omega
              · have hsh' : merge (ln k) (lf k) R rf (ln k + R) 0 0 = false := by simpa [shareB] using hsh
                have hsf : shareB ln lf R rf k = false := by simpa using hsh
                have HN : ∀ v q, wr.ownsRow w13.heap.size 21 1 v (idsL (shareB ln lf R rf) k).length ((idsL (shareB ln lf R rf) k).map (Value.int .i32)) → (wr.drewN q).ownsRow w13.heap.size 21 1 v (idsL (shareB ln lf R rf) (k + 1)).length ((idsL (shareB ln lf R rf) (k + 1)).map (Value.int .i32)) := fun v q h => by rw [idsL_miss hsf]; exact h
                have HN : Hid (∀ v q, wr.ownsRow w13.heap.size 21 1 v (idsL (shareB ln lf R rf) k).length ((idsL (shareB ln lf R rf) k).map (Value.int .i32)) → (wr.drewN q).ownsRow w13.heap.size 21 1 v (idsL (shareB ln lf R rf) (k + 1)).length ((idsL (shareB ln lf R rf) (k + 1)).map (Value.int .i32))) := HN
                clear hsh hsf
                go_wp2_with (go_at_call 18; refine (shares_any _ _ _ _ _ _ _ _ _ l1 sR r1 rr).mono ?_; rintro e w' ⟨rfl, q, rfl⟩)
                go_roundw
                case rel => exact ⟨k + 1, by omega, by go_num, HN.out _ q hown, below_drewN hnx q⟩
                case measure => simp only [intOf]; omega
            obtain rfl : bl = k := by omega
            obtain ⟨w14, rfl⟩ : ∃ x, x = wr := ⟨_, rfl⟩
            obtain ⟨ia, ic, hids, KS⟩ := rowAt_of_owns hown
            subst hids
            have hlen := idsL_len (shareB ln lf R rf) bl
            have b14 := hnx
            have h14 := h13.below b14
            have hr14 := hr13.below b14
            clear hown hnx hlt hk
            go_upto_if 154 with fail
            go_cut [33] (fun sv wc => Below w14.heap.size w14 wc ∧ ∃ (sa : Option Addr) (sn sc : Nat), sv = .slice sa sn sc ∧ (sv = .slice none 0 0 ∨ ∃ ad c B, sv = .slice (some ad) W c ∧ FiltAt wc (some ad) W B ∧ ∀ s : Nat, bl ≤ s → s < C → shareB ln lf R rf s = true → B (slotOf W s) = true))
            case first =>
              cases ks with
              | false =>
                go_wp2_with fail
                go_meet
                case rel => exact ⟨Below.refl _ _, none, 0, 0, rfl, Or.inl rfl⟩
              | true =>
              have hmk := run_make_row' (P := Try.prog) 41 45 (.int .u64 0) 8 Try.underlying41 Try.info45 rfl .i64 .i64 W (by omega) (by omega)
              go_wp2_with fail
              clear hmk
              go_loopw [34] (fun i wx => ∃ (k : Nat) (F : Nat → Int), bl ≤ k ∧ (k ≤ C ∨ k = bl) ∧ i = .int .i64 k ∧ Marked w14 wx w14.heap.size W F (fun x => ∃ s : Nat, bl ≤ s ∧ s < k ∧ shareB ln lf R rf s = true ∧ x = s)) (fun i _ => C - (intOf i).toNat)
              case atStart => exact ⟨bl, fun _ => 0, by omega, Or.inr rfl, rfl, (Below.refl _ _).alloc (Nat.le_refl _) _, World.rowIs_made w14 _ W 45, fun x ⟨s, h1, h2, _⟩ => by omega⟩
              case round =>
                obtain ⟨k, F, hk1, hk2, rfl, HM⟩ := hrel
                by_cases hlt : k < C
                · obtain ⟨⟨eb, eo, hea0, hec0⟩, hel0⟩ := h14.e.below HM.below
                  obtain rfl := hea0 (by omega)
                  have c1 := hec0 k (by omega)
                  have r1 := hel0 k (by omega)
                  have l1 := S.l k (by omega)
                  have rr := h14.r.below HM.below
                  clear hec0 hel0 hea0
                  by_cases hsh : shareB ln lf R rf k = true
                  · have hsh' : merge (ln k) (lf k) R rf (ln k + R) 0 0 = true := hsh
                    have HN := HM.next (Nat.le_refl _) (k : Int) (D' := fun x => ∃ s : Nat, bl ≤ s ∧ s < k + 1 ∧ shareB ln lf R rf s = true ∧ x = s) (fun x ⟨s, h1, h2, h3, e⟩ => by
                      by_cases hs : s = k
                      · subst hs; exact Or.inr e
                      · exact Or.inl ⟨s, h1, by omega, h3, e⟩)
                    have hrow : ∀ q, (wr.drewN q).rowIs w14.heap.size 45 W (fun j => .int .u64 (F j)) := fun q => HM.row
                    clear HM
                    go_wp2_with (first
                      | (go_at_call 18; refine (shares_any _ _ _ _ _ _ _ _ _ l1 sR r1 rr).mono ?_; rintro e w' ⟨rfl, q, rfl⟩)
                      | (go_at_call 19; refine (mark_any _ _ _ _ _ _ hW0 hW1 (hrow _)).mono ?_; rintro e w' ⟨rfl, rfl⟩))
                    go_roundw
                    case rel =>
                      obtain ⟨F', HN'⟩ := HN
                      exact ⟨k + 1, F', by omega, by omega, by go_num, below_drewN HN'.below q, HN'.row, HN'.set⟩
                    case measure => simp only [intOf]; omega
                  · have hsh' : merge (ln k) (lf k) R rf (ln k + R) 0 0 = false := by simpa [shareB] using hsh
                    have HN : ∀ q, Marked w14 (wr.drewN q) w14.heap.size W F (fun x => ∃ s : Nat, bl ≤ s ∧ s < k + 1 ∧ shareB ln lf R rf s = true ∧ x = s) := fun q =>
                      ⟨below_drewN HM.below q, HM.row, fun x ⟨s, h1, h2, h3, e⟩ => by
                        by_cases hs : s = k
                        · subst hs; exact absurd h3 hsh
                        · exact HM.set x ⟨s, h1, by omega, h3, e⟩⟩
                    clear HM hsh
                    go_wp2_with (go_at_call 18; refine (shares_any _ _ _ _ _ _ _ _ _ l1 sR r1 rr).mono ?_; rintro e w' ⟨rfl, q, rfl⟩)
                    go_roundw
                    case rel => exact ⟨k + 1, F, by omega, by omega, by go_num, HN q⟩
                    case measure => simp only [intOf]; omega
                · obtain ⟨B, h1, h2⟩ := HM.filt
                  have hb := HM.below
                  clear HM
                  go_wp2_with fail
                  go_meet
                  case rel => exact ⟨hb, some ⟨w14.heap.size, 0, none⟩, W, W, rfl, Or.inr ⟨_, _, B, rfl, h1, fun s g1 g2 g3 => h2 _ ⟨s, g1, by omega, g3, rfl⟩⟩⟩
            case rest =>
              obtain ⟨b15, sa, sn, sc, rfl, hsv⟩ := hcut
              obtain ⟨w15, rfl⟩ : ∃ x, x = wc := ⟨_, rfl⟩
              have hr15 := hr14.below b15
              go_wp2_with fail
              refine (filterOf_any _ _ _ _ _ _ sR hW0 hW1 hr15).mono ?_
              rintro e w16 ⟨rfl, b16, hfo⟩
              go_wp2_with fail
              refine (newKept_any _ _ _ _ _ _ _ _ _ _ _ _ _ _).mono ?_
              rintro e w17 ⟨rfl, hw17⟩
              have b17 : Below w16.heap.size w16 w17 := by rw [hw17]; exact (Below.refl _ _).alloc (Nat.le_refl _) _
              have hd17 := kept_heads (w := w16) (bl : Int) none ia sa (some ⟨w15.heap.size, 0, none⟩) 0 0 (idsL (shareB ln lf R rf) bl).length ic sn sc W W
              rw [← hw17] at hd17
              clear hw17
              have B17 : Below w13.heap.size w13 w17 := by
                have s14 := b14.size; have s15 := b15.size; have s16 := b16.size
                exact ((b14.trans (b15.mono s14)).trans (b16.mono (by omega))).trans (b17.mono (by omega))
              have K17 : KeptAt w17 w16.heap.size bl C W (shareB ln lf R rf) R rf := by
                obtain ⟨d0, d1, d2, d3, d4⟩ := hd17
                have b1417 : Below w14.heap.size w14 w17 := by
                  have s15 := b15.size; have s16 := b16.size
                  exact (b15.trans (b16.mono s15)).trans (b17.mono (by omega))
                have b1517 : Below w15.heap.size w15 w17 := b16.trans (b17.mono b16.size)
                refine ⟨d0, ?_, ?_, ?_⟩
                · exact Or.inr ⟨d1, _, _, _, _, d2, by omega, KS.below b1417, fun s hs => idsL_found _ _ _ hs⟩
                · rcases hsv with e | ⟨ad, c, B, e, h2, h3⟩
                  · exact Or.inl (by rw [← e]; exact d3)
                  · exact Or.inr ⟨ad, c, B, by rw [← e]; exact d3, h2.below b1517, h3⟩
                · exact ⟨_, _, d4, FiltOf.below (w := w16) hfo b17⟩
              clear hd17 hfo hsv
              go_wp2_with fail
              go_meet
              case rel => exact ⟨B17, _, rfl, Or.inr ⟨_, rfl, K17⟩⟩
      case rest =>
        obtain ⟨bc, kx, rfl, hkx⟩ := hcut
        have T14 := T13.below bc
        have h14 := h13.below bc
        have he14 := he13.below bc
        have hr14 := hr13.below bc
        have hF14 := hF13.below bc
        have B14 := B13.trans (bc.mono B13.size)
        clear T13 h13 he13 hr13 hF13 B13 bc
        go_wp2_with fail
        refine (newTree_any _ _ _ _ _ _ _).mono ?_
        rintro e w15 ⟨rfl, hw15⟩
        have t15 : TreeHead w15 wc.heap.size ea2 E ec2 (some ⟨w12.heap.size, 0, none⟩) C C := by rw [hw15]; exact cover_heads _ _ _ _ _ _
        have b15 : Below wc.heap.size wc w15 := by rw [hw15]; exact (Below.refl _ _).alloc (Nat.le_refl _) _
        clear hw15
        have T15 := T14.below b15
        have h15 := h14.below b15
        have he15 := he14.below b15
        have hr15 := hr14.below b15
        have hF15 := hF14.below b15
        have B15 := B14.trans (b15.mono B14.size)
        have K15 : kx = none ∨ ∃ kb, kx = some ⟨kb, 0, none⟩ ∧ KeptAt w15 kb bl C W (shareB ln lf R rf) R rf := by
          rcases hkx with h | ⟨kb, h, K⟩
          · exact Or.inl h
          · exact Or.inr ⟨kb, h, K.low b15⟩
        clear T14 h14 he14 hr14 hF14 B14 b15 hkx
        go_wp2_with fail
        refine (newRoles_any _ _ _ _ _).mono ?_
        rintro e w16 ⟨rfl, hw16⟩
        have u16 : RolesHead w16 w15.heap.size ra2 R rc2 kx := by rw [hw16]; exact role_heads _ _ _ _
        have b16 : Below w15.heap.size w15 w16 := by rw [hw16]; exact (Below.refl _ _).alloc (Nat.le_refl _) _
        clear hw16
        have T16 := T15.below b16
        have h16 := h15.below b16
        have he16 := he15.below b16
        have hr16 := hr15.below b16
        have hF16 := hF15.below b16
        have t16 := t15.below b16
        have B16 := B15.trans (b16.mono B15.size)
        have K16 : kx = none ∨ ∃ kb, kx = some ⟨kb, 0, none⟩ ∧ KeptAt w16 kb bl C W (shareB ln lf R rf) R rf := by
          rcases K15 with h | ⟨kb, h, K⟩
          · exact Or.inl h
          · exact Or.inr ⟨kb, h, K.low b16⟩
        clear T15 h15 he15 hr15 hF15 B15 b16 K15 t15
        go_wp2_with fail
        refine (cloneStrs_any _ _ _ _ _ S.q h16.q0 h16.q).mono ?_
        rintro e w17 ⟨qa2, qc2, rfl, hq17, b17, hqc2⟩
        have T17 := T16.below b17
        have h17 := h16.below b17
        have he17 := he16.below b17
        have hr17 := hr16.below b17
        have hF17 := hF16.below b17
        have t17 := t16.below b17
        have u17 := u16.below b17
        have B17 := B16.trans (b17.mono B16.size)
        have K17 : kx = none ∨ ∃ kb, kx = some ⟨kb, 0, none⟩ ∧ KeptAt w17 kb bl C W (shareB ln lf R rf) R rf := by
          rcases K16 with h | ⟨kb, h, K⟩
          · exact Or.inl h
          · exact Or.inr ⟨kb, h, K.low b17⟩
        have HC := COV.out w17 wc.heap.size w15.heap.size ea2 ec2 la2 lc2 (some ⟨w12.heap.size, 0, none⟩) C C ra2 rc2 kx qa2 qc2 T17 t17 u17 he17 hr17 hF17 K17 hq17 hqc2
        clear T16 h16 he16 hr16 hF16 B16 b17 K16 t16 u16 T17 he17 hr17 hF17 t17 u17 K17 hq17 hqc2
        go_wp2_with fail
        refine HC.mono ?_
        rintro e w18 ⟨rfl, hw18⟩
        have b18 : Below w17.heap.size w17 w18 := below_dr (Below.refl _ _) hw18
        have h18 := h17.below b18
        have B18 : Below w2.heap.size w2 w18 := below_dr B17 hw18
        clear HC h17 b18 B17 hw18
        go_wp2_with fail
        refine (model_any _ _ _ _ _ _ _ _ _ _ _ _ _ _ _ _ _ _ _ _ _ _ _ _ h18.g h18.e h18.r h18.q S DM.gs).mono ?_
        rintro e w19 ⟨rfl, hw19⟩
        rw [hM.out]
        have B19 : Below w2.heap.size w2 w19 := below_dr B18 hw19
        clear hw19 h18 B18
        cases M
        all_goals
          go_wp2_with fail
          go_ret
          exact ⟨rfl, B19⟩
end Go.Proofs.Qxb6618426a
