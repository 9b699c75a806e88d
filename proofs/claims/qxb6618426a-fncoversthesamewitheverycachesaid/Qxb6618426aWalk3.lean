import Derived.Test.Qxb6618426aLaw
namespace Go.Proofs.Qxb6618426a
open Go.RowKit

section
variable {w w' : World}
theorem GrantsAt.below {a : Option Addr} {G : Nat} {pa : Nat → Option Addr} {pn pc : Nat → Nat} {gs : Nat → Int} {ps : Nat → Nat → ByteArray} (h : GrantsAt w a G pa pn pc gs ps) (hb : Below w.heap.size w w') : GrantsAt w' a G pa pn pc gs ps := by
  obtain ⟨⟨b, off, ha, hc⟩, hr⟩ := h
  refine ⟨⟨b, off, ha, fun i hi => ?_⟩, fun i hi => (hr i hi).below hb⟩
  rw [hb.cell (World.block_lt_of_cell? _ _ (hc i hi).1), hb.cell (World.block_lt_of_cell? _ _ (hc i hi).2)]
  exact hc i hi
theorem ListsAt.below {a : Option Addr} {E : Nat} {la : Nat → Option Addr} {ln lc : Nat → Nat} {lf : Nat → Nat → Int} (h : ListsAt w a E la ln lc lf) (hb : Below w.heap.size w w') : ListsAt w' a E la ln lc lf :=
  ⟨h.1.below hb, fun i hi => (h.2 i hi).below hb⟩
theorem below_dr {B : Nat} {a : World} (h : Below B a w) (hd : Dr w w') : Below B a w' := by
  obtain ⟨q, rfl⟩ := hd; exact below_drewN h q
end

/-- The four arguments as they lie in memory. -/
structure Args (w : World) (ga ea ra qa : Option Addr) (G E R Q : Nat) (pa la : Nat → Option Addr) (pn pc ln lc : Nat → Nat) (gs : Nat → Int) (ps : Nat → Nat → ByteArray) (lf : Nat → Nat → Int) (rf : Nat → Int) (qs : Nat → ByteArray) : Prop where
  g : GrantsAt w ga G pa pn pc gs ps
  e : ListsAt w ea E la ln lc lf
  r : RowAt w ra R (fun j => .int .i32 (rf j))
  q : RowAt w qa Q (fun j => .string (qs j))
  e0 : ea = none → E = 0
  l0 : ∀ i, i < E → la i = none → ln i = 0
  r0 : ra = none → R = 0
  q0 : qa = none → Q = 0
  gw : ∀ i, i < G → -2147483648 ≤ gs i ∧ gs i ≤ 2147483647

theorem Args.below {w w' : World} {ga ea ra qa : Option Addr} {G E R Q : Nat} {pa la : Nat → Option Addr} {pn pc ln lc : Nat → Nat} {gs : Nat → Int} {ps : Nat → Nat → ByteArray} {lf : Nat → Nat → Int} {rf : Nat → Int} {qs : Nat → ByteArray}
    (h : Args w ga ea ra qa G E R Q pa la pn pc ln lc gs ps lf rf qs) (hb : Below w.heap.size w w') : Args w' ga ea ra qa G E R Q pa la pn pc ln lc gs ps lf rf qs :=
  ⟨h.g.below hb, h.e.below hb, h.r.below hb, h.q.below hb, h.e0, h.l0, h.r0, h.q0, h.gw⟩

theorem cover_heads {w : World} (a : Option Addr) (n c : Nat) (a' : Option Addr) (n' c' : Nat) : TreeHead (w.alloc (.cells #[.map none, .pointer none, .int .i32 0, .int .i32 0, .map none, .slice a n c, .slice a' n' c', .slice none 0 0, .slice none 0 0, .int .u64 0] 63)) w.heap.size a n c a' n' c' := by
  constructor <;> simp
theorem role_heads {w : World} (a : Option Addr) (n c : Nat) (k : Option Addr) : RolesHead (w.alloc (.cells #[.int .u64 0, .slice a n c, .pointer k] 65)) w.heap.size a n c k := by
  constructor <;> simp

theorem covers13 (t n r : Value) (a : Option Addr) (m c : Nat) (w : World) (b : Bool) (h : Calls Try.prog 28 #[t, n, .slice a m c, r] w fun e w' => e = .returned (.bool b) ∧ ∃ q, w' = w.drewN q) :
    Calls Try.prog 13 #[t, n, .slice a m c, r] w fun e w' => e = .returned (.bool b) ∧ ∃ q, w' = w.drewN q := by
  have H : Hid (Calls Try.prog 28 #[t, n, .slice a m c, r] w fun e w' => e = .returned (.bool b) ∧ ∃ q, w' = w.drewN q) := h
  clear h
  go_enter Try.func13, Try.ntmps13
  go_wp2_with (go_at_call 28; refine H.out.mono ?_; rintro e w' ⟨rfl, q, rfl⟩)
  go_ret
  exact ⟨rfl, q, rfl⟩

set_option maxHeartbeats 1000000 in
set_option maxRecDepth 100000 in
theorem walk3 (ga ea ra qa : Option Addr) (G gc E ec R rc Q qc : Nat) (pa la : Nat → Option Addr) (pn pc ln lc : Nat → Nat) (gs : Nat → Int) (ps : Nat → Nat → ByteArray) (lf : Nat → Nat → Int) (rf : Nat → Int) (qs : Nat → ByteArray)
    (w : World) (h : Args w ga ea ra qa G E R Q pa la pn pc ln lc gs ps lf rf qs) :
    Calls Try.prog 3 #[.slice ga G gc, .slice ea E ec, .slice ra R rc, .slice qa Q qc] w fun e w' => e = .returned (.bool true) ∧ Below w.heap.size w w' := by
  go_enter Try.func3, Try.ntmps3
  go_wp2_with fail
  refine (bytes_any _ _ _ _ _ _ _ _ _ _ _ _ _ _ _ _ _ _ _ _ _ _ _ h.g h.e h.q).mono ?_
  rintro e w1 ⟨⟨r, rfl, hS⟩, hw⟩
  subst hw
  cases r with
  | false =>
    go_wp2_with fail
    go_ret
    exact ⟨rfl, Below.refl _ _⟩
  | true =>
  have S := hS rfl
  clear hS
  go_wp2_with fail
  refine (sizeOK_any _ _ _ _ _ _ _ _ _ _ _ _ _ _ _ _ _ _ _ _ _ _ _ h.g h.e h.q S).mono ?_
  rintro e w2 ⟨⟨r, rfl, _⟩, hw⟩
  subst hw
  cases r with
  | false =>
    go_wp2_with fail
    go_ret
    exact ⟨rfl, Below.refl _ _⟩
  | true =>
  go_wp2_with fail
  refine (domainOK_any _ _ _ _ _ _ _ _ _ _ _ _ _ _ _ _ _ _ _ _ _ h.g h.e h.r S h.gw).mono ?_
  rintro e w3 ⟨⟨r, rfl, hD⟩, hw⟩
  cases r with
  | false =>
    go_wp2_with fail
    go_ret
    exact ⟨rfl, below_dr (Below.refl _ _) hw⟩
  | true =>
  have DM := hD rfl
  have b3 : Below w2.heap.size w2 w3 := below_dr (Below.refl _ _) hw
  have h3 := h.below b3
  clear hD hw h
  go_wp2_with fail
  refine (build_any _ _ _ _ _ _ _ _ _ h3.g S.g S.p).mono ?_
  rintro e w4 ⟨rfl, D, E', HB⟩
  have b4 := HB.below
  have h4 := h3.below b4
  have T4 := HB.tree
  go_wp2_with fail
  refine (cloneLists_any _ _ _ _ _ _ _ _ S.e S.l h4.e0 h4.l0 h4.e).mono ?_
  rintro e w5 ⟨ea', ec', la', lc', rfl, he5, b5⟩
  have T5 := T4.below b5
  have h5 := h4.below b5
  go_wp2_with fail
  refine (newTree_any _ _ _ _ _ _ _).mono ?_
  rintro e w6 ⟨rfl, hw6⟩
  have t6 : TreeHead w6 w5.heap.size ea' E ec' none 0 0 := by rw [hw6]; exact cover_heads _ _ _ _ _ _
  have b6 : Below w5.heap.size w5 w6 := by rw [hw6]; exact (Below.refl _ _).alloc (Nat.le_refl _) _
  clear hw6
  have T6 := T5.below b6
  have h6 := h5.below b6
  have he6 := he5.below b6
  clear T4 T5 h3 h4 he5 h5
  go_wp2_with fail
  refine (cloneInts_any _ _ _ _ _ S.r h6.r0 h6.r).mono ?_
  rintro e w7 ⟨ra', rc', rfl, hr7, b7, _⟩
  have T7 := T6.below b7
  have h7 := h6.below b7
  have he7 := he6.below b7
  have t7 := t6.below b7
  clear T6 h6 he6 t6
  go_wp2_with fail
  refine (newRoles_any _ _ _ _ _).mono ?_
  rintro e w8 ⟨rfl, hw8⟩
  have u8 : RolesHead w8 w7.heap.size ra' R rc' none := by rw [hw8]; exact role_heads _ _ _ _
  have b8 : Below w7.heap.size w7 w8 := by rw [hw8]; exact (Below.refl _ _).alloc (Nat.le_refl _) _
  clear hw8
  have T8 := T7.below b8
  have h8 := h7.below b8
  have he8 := he7.below b8
  have t8 := t7.below b8
  have hr8 := hr7.below b8
  clear T7 h7 he7 t7 hr7
  go_wp2_with fail
  refine (cloneStrs_any _ _ _ _ _ S.q h8.q0 h8.q).mono ?_
  rintro e w9 ⟨qa', qc', rfl, hq9, b9, hqc⟩
  have T9 := T8.below b9
  have h9 := h8.below b9
  have he9 := he8.below b9
  have t9 := t8.below b9
  have hr9 := hr8.below b9
  have u9 := u8.below b9
  clear T8 h8 he8 t8 hr8 u8
  have hsets : ∀ k, k < D.length → ∃ s : Nat, s < E ∧ E' k = s := by
    intro k hk
    rw [HB.ends k hk]
    rcases lastSet_or (pn := pn) (gs := gs) (ps := ps) (x := G) (p := D.getD k []) with e | ⟨i, hi, _, e, _⟩
    · exact ⟨0, DM.e0, e⟩
    · have := DM.gs i hi
      exact ⟨(gs i).toNat, by omega, by omega⟩
  have hmono : ∀ s, s < E → Mono (ln s) (lf s) := fun s hs => mono_of_sorted (DM.ls s hs)
  have hmr : Mono R rf := mono_of_sorted DM.rs
  have HEQ : covB D E' (plainB ln lf R rf) (segs Q qs) [] = modelB G pn gs ps ln lf R rf Q qs := by
    refine covers_is_model HB.paths HB.mem HB.ends (fun k hk => ?_) ?_
    · obtain ⟨s, hs, e⟩ := hsets k hk
      rw [e]; exact plainB_eq (hmono _ (by omega)) hmr
    · rw [← Bool.not_eq_true, shareB_iff (hmono 0 DM.e0) hmr]
      rintro ⟨i, j, hi, _, _⟩
      rw [DM.l0] at hi; omega
  have HC := covers_any w5.heap.size w7.heap.size w3.heap.size D E' (plainB ln lf R rf) w9 T9 (fun w hd k hk => by
    obtain ⟨s, hs, e⟩ := hsets k hk
    have hb : Below w9.heap.size w9 w := below_dr (Below.refl _ _) hd
    rw [e]
    exact reaches_plain _ _ s _ _ _ _ _ _ _ _ _ _ _ w hs S.e S.l S.r (t9.below hb) (u9.below hb) (he9.below hb) (hr9.below hb)) Q S.q qa' qc' qs [] w9 (Dr.refl _) hq9 hqc
  have hroot : ptr w3.heap.size D [] = .pointer (some ⟨w3.heap.size + 1, 0, none⟩) := by
    obtain ⟨h0, h1⟩ := List.getElem?_eq_some_iff.1 HB.paths.rt
    have hm : ([] : Pth) ∈ D := h1 ▸ List.getElem_mem h0
    have hix : ix D [] = 0 := by have := ix_at HB.paths.nd h0; rw [h1] at this; exact this
    rw [ptr_at hm, hix]
  rw [hroot, HEQ] at HC
  have B9 : Below w2.heap.size w2 w9 := by
    have s3 := b3.size; have s4 := b4.size; have s5 := b5.size; have s6 := b6.size; have s7 := b7.size; have s8 := b8.size
    exact ((((((b3.trans (b4.mono s3)).trans (b5.mono (by omega))).trans (b6.mono (by omega))).trans (b7.mono (by omega))).trans (b8.mono (by omega))).trans (b9.mono (by omega)))
  clear hroot HEQ hsets hmono hmr T9 t9 u9 he9 hr9 hq9 HB b3 b4 b5 b6 b7 b8 b9
  go_wp2_with fail
  refine (covers13 _ _ _ _ _ _ _ _ HC).mono ?_
  rintro e w10 ⟨rfl, hw10⟩
  have b10 : Below w9.heap.size w9 w10 := below_dr (Below.refl _ _) hw10
  have h10 := h9.below b10
  have B10 : Below w2.heap.size w2 w10 := below_dr B9 hw10
  clear HC h9 b10 B9 hw10
  go_wp2_with fail
  refine (model_any _ _ _ _ _ _ _ _ _ _ _ _ _ _ _ _ _ _ _ _ _ _ _ _ h10.g h10.e h10.r h10.q S DM.gs).mono ?_
  rintro e w11 ⟨rfl, hw11⟩
  have B11 : Below w2.heap.size w2 w11 := below_dr B10 hw11
  clear hw11 h10 B10
  go_wp2_with fail
  go_ret
  exact ⟨ret_bool (by simp), B11⟩
end Go.Proofs.Qxb6618426a
