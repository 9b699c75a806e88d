import Derived.Test.Qxb6618426aTree
namespace Go.Proofs.Qxb6618426a
open Go.RowKit Go.ChangeMaps

/-- The first y segments of grant i's path. -/
def pre (ps : Nat → Nat → ByteArray) (i y : Nat) : Pth := (List.range y).map (ps i)
theorem pre_succ (ps : Nat → Nat → ByteArray) (i y : Nat) : pre ps i (y + 1) = pre ps i y ++ [ps i y] := by simp [pre, List.range_succ]
theorem pre_len (ps : Nat → Nat → ByteArray) (i y : Nat) : (pre ps i y).length = y := by simp [pre]
/-- The set of the last grant of path p among the first x, 0 where there is none. -/
def lastSet (pn : Nat → Nat) (gs : Nat → Int) (ps : Nat → Nat → ByteArray) : Nat → Pth → Int
  | 0, _ => 0
  | x + 1, p => if pre ps x (pn x) = p then gs x else lastSet pn gs ps x p
theorem lastSet_none {pn : Nat → Nat} {gs : Nat → Int} {ps : Nat → Nat → ByteArray} {x : Nat} {p : Pth} (h : ∀ i, i < x → pre ps i (pn i) ≠ p) : lastSet pn gs ps x p = 0 := by
  induction x with
  | zero => rfl
  | succ x ih => rw [lastSet, if_neg (h x (by omega))]; exact ih (fun i hi => h i (by omega))

/-- The tree of the first x grants and of the first y segments of the next. -/
structure Built (w wr : World) (pn : Nat → Nat) (gs : Nat → Int) (ps : Nat → Nat → ByteArray) (D : List Pth) (E : Nat → Int) (x y : Nat) : Prop where
  tree : Tree wr w.heap.size D E
  paths : Paths D
  size : wr.heap.size = w.heap.size + 2 * D.length
  below : Below w.heap.size w wr
  mem : ∀ p, p ∈ D ↔ p = [] ∨ (∃ i k, i < x ∧ k ≤ pn i ∧ p = pre ps i k) ∨ (∃ k, k ≤ y ∧ p = pre ps x k)
  ends : ∀ k, k < D.length → E k = lastSet pn gs ps x (D.getD k [])
  rest : ∀ k, D.length ≤ k → E k = 0

section
variable {w wr : World} {pn : Nat → Nat} {gs : Nat → Int} {ps : Nat → Nat → ByteArray} {D : List Pth} {E : Nat → Int} {x y : Nat}

theorem newW_below (h : Below w.heap.size w wr) : Below w.heap.size w (newW wr) :=
  (h.alloc h.size _).alloc (by have := h.size; simp; omega) _

theorem built_start (w : World) (pn : Nat → Nat) (gs : Nat → Int) (ps : Nat → Nat → ByteArray) : Built w (newW w) pn gs ps [[]] (fun _ => 0) 0 0 := by
  have h := tree_root w
  refine ⟨h.1, h.2, by simp [newW_size], newW_below (Below.refl _ _), fun p => ?_, fun k hk => rfl, fun k hk => rfl⟩
  simp only [List.mem_singleton]
  constructor
  · intro e; exact Or.inl e
  · rintro (e | ⟨i, k, hi, _⟩ | ⟨k, hk, e⟩)
    · exact e
    · omega
    · have : k = 0 := by omega
      subst this; exact e

/-- The child is there. -/
theorem built_old (h : Built w wr pn gs ps D E x y) (hm : pre ps x (y + 1) ∈ D) : Built w wr pn gs ps D E x (y + 1) := by
  refine ⟨h.tree, h.paths, h.size, h.below, fun p => ?_, h.ends, h.rest⟩
  constructor
  · intro hp
    rcases (h.mem p).1 hp with e | e | ⟨k, hk, e⟩
    · exact Or.inl e
    · exact Or.inr (Or.inl e)
    · exact Or.inr (Or.inr ⟨k, by omega, e⟩)
  · rintro (e | e | ⟨k, hk, e⟩)
    · exact (h.mem p).2 (Or.inl e)
    · exact (h.mem p).2 (Or.inr (Or.inl e))
    · by_cases hk' : k = y + 1
      · subst hk'; rw [e]; exact hm
      · exact (h.mem p).2 (Or.inr (Or.inr ⟨k, by omega, e⟩))

/-- The child is new. -/
theorem built_new (h : Built w wr pn gs ps D E x y) (hm : pre ps x (y + 1) ∉ D) {w' : World} (ht : Tree w' w.heap.size (D ++ [pre ps x (y + 1)]) E) (hs : w'.heap.size = wr.heap.size + 2)
    (hb : Below w.heap.size w w') {c : Nat} (hc : c < D.length) (hcp : D.getD c [] = pre ps x y) : Built w w' pn gs ps (D ++ [pre ps x (y + 1)]) E x (y + 1) := by
  have hpm : pre ps x y ∈ D := hcp ▸ getD_mem hc
  refine ⟨ht, ?_, by rw [hs, h.size]; simp; omega, hb, fun p => ?_, fun k hk => ?_, fun k hk => h.rest k (by simp at hk; omega)⟩
  · rw [pre_succ]; exact paths_push h.paths hpm (by rw [← pre_succ]; exact hm)
  · simp only [List.mem_append, List.mem_singleton]
    constructor
    · rintro (hp | e)
      · rcases (h.mem p).1 hp with e | e | ⟨k, hk, e⟩
        · exact Or.inl e
        · exact Or.inr (Or.inl e)
        · exact Or.inr (Or.inr ⟨k, by omega, e⟩)
      · exact Or.inr (Or.inr ⟨y + 1, by omega, e⟩)
    · rintro (e | e | ⟨k, hk, e⟩)
      · exact Or.inl ((h.mem p).2 (Or.inl e))
      · exact Or.inl ((h.mem p).2 (Or.inr (Or.inl e)))
      · by_cases hk' : k = y + 1
        · subst hk'; exact Or.inr e
        · exact Or.inl ((h.mem p).2 (Or.inr (Or.inr ⟨k, by omega, e⟩)))
  · rw [len_push] at hk
    by_cases e : k = D.length
    · subst e
      have hg : (D ++ [pre ps x (y + 1)]).getD D.length [] = pre ps x (y + 1) := by simp [List.getD]
      rw [hg, h.rest _ (Nat.le_refl _), lastSet_none]
      intro i hi e
      exact hm ((h.mem _).2 (Or.inr (Or.inl ⟨i, pn i, hi, Nat.le_refl _, e.symm⟩)))
    · rw [getD_push (by omega)]; exact h.ends k (by omega)

/-- The grant's end is set. -/
theorem built_end (h : Built w wr pn gs ps D E x (pn x)) {c : Nat} (hc : c < D.length) (hcp : D.getD c [] = pre ps x (pn x)) :
    Built w (wr.setCell ⟨w.heap.size + 2 * c + 1, 2, none⟩ (.int .i32 (gs x))) pn gs ps D (fun j => if j = c then gs x else E j) (x + 1) 0 := by
  refine ⟨tree_end h.tree (gs x), h.paths, by simp [World.setCell, h.size], h.below.setCell (by simp only; omega) _, fun p => ?_, fun k hk => ?_, fun k hk => ?_⟩
  · rw [h.mem p]
    constructor
    · rintro (e | ⟨i, k, hi, hk, e⟩ | ⟨k, hk, e⟩)
      · exact Or.inl e
      · exact Or.inr (Or.inl ⟨i, k, by omega, hk, e⟩)
      · exact Or.inr (Or.inl ⟨x, k, by omega, hk, e⟩)
    · rintro (e | ⟨i, k, hi, hk, e⟩ | ⟨k, hk, e⟩)
      · exact Or.inl e
      · by_cases hi' : i = x
        · subst hi'; exact Or.inr (Or.inr ⟨k, hk, e⟩)
        · exact Or.inr (Or.inl ⟨i, k, by omega, hk, e⟩)
      · have : k = 0 := by omega
        subst this; exact Or.inl e
  · simp only [lastSet]
    by_cases e : k = c
    · subst e; rw [if_pos rfl, if_pos hcp.symm]
    · rw [if_neg e, if_neg (fun hh => e (getD_inj h.paths.nd hk hc (by rw [← hh, hcp])))]
      exact h.ends k hk
  · rw [if_neg (by omega)]; exact h.rest k hk
end

theorem below_setBlock {B : Nat} {a w : World} (h : Below B a w) {b : Nat} (hb : B ≤ b) (o : Obj) : Below B a (setBlock w b o) :=
  h.trans ⟨rfl, rfl, rfl, by simp [setBlock], fun k hk => setBlock_heap_other _ (by omega)⟩

theorem Try.info28 : (Try.prog.info? 28).map (fun i => i.zero) = some (some (.pointer none)) := by kernel_rfl

theorem newNode_at (w : World) (M : Nat) (h : w.heap.size = M) : Calls Try.prog 22 #[] w fun e w' => e = .returned (.pointer (some ⟨M + 1, 0, none⟩)) ∧ w' = newW w := by
  subst h; exact newNode_any w

theorem star_iff (s : ByteArray) : (s.toList == [42]) = true ↔ s = star := by
  rw [beq_iff_eq, ByteArray.toList_eq]
  constructor
  · intro h
    obtain ⟨d⟩ := s
    have : d = #[42] := Array.toList_inj.1 (by simpa using h)
    rw [this]; rfl
  · intro h; subst h; rfl
theorem star_not (s : ByteArray) : (s.toList == [42]) = false ↔ s ≠ star := by
  rw [← Bool.not_eq_true, star_iff]

set_option maxHeartbeats 1000000 in
set_option maxRecDepth 100000 in
theorem build_any (ga : Option Addr) (G gc : Nat) (pa : Nat → Option Addr) (pn pc : Nat → Nat) (gs : Nat → Int) (ps : Nat → Nat → ByteArray)
    (w : World) (hg : GrantsAt w ga G pa pn pc gs ps) (hG : G ≤ 1048576) (hP : ∀ i, i < G → pn i ≤ 1048576) :
    Calls Try.prog 8 #[.slice ga G gc] w fun e w' => e = .returned (.pointer (some ⟨w.heap.size + 1, 0, none⟩)) ∧ ∃ D E, Built w w' pn gs ps D E G 0 := by
  obtain ⟨⟨gb, go, hga, hgc⟩, hgp⟩ := hg
  go_enter Try.func8, Try.ntmps8
  go_wp2_with fail
  refine (newNode_at w w.heap.size rfl).mono ?_
  rintro e w1 ⟨rfl, rfl⟩
  go_wp2_with fail
  go_loopw [4] (fun i wr => ∃ x : Nat, x ≤ G ∧ i = .int .i64 x ∧ ∃ D E, Built w wr pn gs ps D E x 0) (fun i _ => G - (intOf i).toNat)
  case atStart => exact ⟨0, by omega, rfl, _, _, built_start w pn gs ps⟩
  case round =>
    obtain ⟨x, hx, rfl, D, E, HB⟩ := hrel
    by_cases hlt : x < G
    · obtain rfl := hga (by omega)
      have b1 := World.block_lt_of_cell? _ _ (hgc x hlt).1
      have c1 : wr.cell? ⟨gb, go + x * 2, none⟩ = some (.slice (pa x) (pn x) (pc x)) := by rw [HB.below.cell (p := ⟨gb, go + x * 2, none⟩) b1]; exact (hgc x hlt).1
      obtain ⟨pb, po, hpa, hpc⟩ := hgp x hlt
      have c0 := (hgc x hlt).2
      have p1 := hP x hlt
      obtain ⟨ad, had⟩ : ∃ ad, ad = pa x := ⟨_, rfl⟩
      rw [← had] at c1 hpa
      clear had
      clear hgc hgp hP
      go_wp2_with fail
      go_loopw [6, 7] (fun n j wr => ∃ (y c : Nat) (D : List Pth) (E : Nat → Int), y ≤ pn x ∧ j = .int .i64 y ∧ n = .pointer (some ⟨w.heap.size + 2 * c + 1, 0, none⟩) ∧ c < D.length ∧ Hid (D.getD c [] = pre ps x y) ∧ Built w wr pn gs ps D E x y)
        (fun _ j _ => pn x - (intOf j).toNat)
      case atStart =>
        have hr := HB.paths.rt
        obtain ⟨h0, h1⟩ := List.getElem?_eq_some_iff.1 hr
        exact ⟨0, 0, D, E, by omega, rfl, rfl, h0, by simp [Hid, List.getD, hr, pre], HB⟩
      case round =>
        clear HB c1
        obtain ⟨y, c, D, E, hy, rfl, rfl, hc, HC, HB⟩ := hrel
        by_cases hyl : y < pn x
        · obtain rfl := hpa (by omega)
          have c2 : wr.cell? ⟨pb, po + y, none⟩ = some (.string (ps x y)) := by
            rw [HB.below.cell (p := ⟨pb, po + y, none⟩) (World.block_lt_of_cell? _ _ (hpc y hyl))]; exact hpc y hyl
          have HPS : Hid (pre ps x (y + 1) = D.getD c [] ++ [ps x y]) := by unfold Hid; rw [pre_succ, HC.out]
          have hnode := HB.tree.node c hc
          have hlit := HB.tree.lits c hc
          have hsz := newW_size wr
          have hnb := newW_below HB.below
          clear hpc hpa
          by_cases hst : ((ps x y).toList == [42]) = true
          · have HST : Hid (ps x y = star) := (star_iff _).1 hst
            by_cases hm : pre ps x (y + 1) ∈ D
            · obtain ⟨c', hl', HG, c3⟩ : ∃ c', c' < D.length ∧ Hid (D.getD c' [] = pre ps x (y + 1)) ∧ wr.cell? ⟨w.heap.size + 2 * c + 1, 1, none⟩ = some (.pointer (some ⟨w.heap.size + 2 * c' + 1, 0, none⟩)) := by
                refine ⟨ix D (pre ps x (y + 1)), ix_lt.2 hm, by unfold Hid; rw [List.getD, List.getElem?_eq_getElem (ix_lt.2 hm), Option.getD_some]; exact ix_get _, ?_⟩
                rw [hnode.cell (i := 1) (by omega)]
                simp only [nodeF, ptr, ptr?]
                rw [← HST.out, ← HPS.out, if_pos (ix_lt.2 hm)]; rfl
              have HN := built_old HB hm
              clear hnode hlit HB hsz hnb
              go_wp2_with (go_at_call 23; refine (wildOf_any _ _ _ c3).mono ?_; rintro e w' ⟨rfl, rfl⟩)
              go_roundw
              case rel => exact ⟨y + 1, c', D, E, by omega, by go_num, rfl, hl', HG, HN⟩
              case measure => simp only [intOf]; omega
            · have c3 : wr.cell? ⟨w.heap.size + 2 * c + 1, 1, none⟩ = some (.pointer none) := by
                rw [hnode.cell (i := 1) (by omega)]
                simp only [nodeF, ptr]
                rw [← HST.out, ← HPS.out, ptr?_none hm]; rfl
              have hnode' := hnode.of_block (newW_old wr _ hnode.lt)
              have c4 : (newW wr).cell? ⟨w.heap.size + 2 * c + 1, 1, none⟩ = some (nodeF w.heap.size D E c 1) := hnode'.cell (by omega)
              have c5 : (newW wr).frozen? ⟨w.heap.size + 2 * c + 1, 1, none⟩ = false := hnode'.frozen 1
              have HT : Tree ((newW wr).setCell ⟨w.heap.size + 2 * c + 1, 1, none⟩ (.pointer (some ⟨w.heap.size + 2 * D.length + 1, 0, none⟩))) w.heap.size (D ++ [pre ps x (y + 1)]) E := by
                rw [HPS.out, HST.out]
                exact tree_wild HB.tree HB.paths HB.size (HB.rest _ (Nat.le_refl _)) hc (by rw [← HST.out, ← HPS.out]; exact hm)
              have HN := built_new HB hm HT (by simp [World.setCell, newW_size]) (hnb.setCell (by simp only; omega) _) hc HC.out
              have HS := HB.size
              have HS : Hid (wr.heap.size = w.heap.size + 2 * D.length) := HS
              have HG : Hid ((D ++ [pre ps x (y + 1)]).getD D.length [] = pre ps x (y + 1)) := by simp [Hid, List.getD]
              clear hnode hnode' hlit HB hsz hnb HT
              go_wp2_with (first
                | (go_at_call 23; refine (wildOf_any _ _ _ c3).mono ?_; rintro e w' ⟨rfl, rfl⟩)
                | (go_at_call 22; refine (newNode_at _ _ HS.out).mono ?_; rintro e w' ⟨rfl, rfl⟩)
                | (go_at_call 24; refine (setWild_any _ _ _ _ c4 c5).mono ?_; rintro e w' ⟨rfl, rfl⟩))
              go_roundw
              case rel => exact ⟨y + 1, D.length, D ++ [pre ps x (y + 1)], E, by omega, by go_num, rfl, by simp, HG, HN⟩
              case measure => simp only [intOf]; omega
          · have hst' : ((ps x y).toList == [42]) = false := by simpa using hst
            have HST : Hid (ps x y ≠ star) := (star_not _).1 hst'
            clear hst
            have c3 : wr.cell? ⟨w.heap.size + 2 * c + 1, 0, none⟩ = some (.map (some (w.heap.size + 2 * c))) := hnode.cell (i := 0) (by omega)
            obtain ⟨i28, hi28, hz28⟩ := Option.map_eq_some_iff.1 Try.info28
            have hl1 := hlit.look Try.underlying58 Try.underlying9 hi28 hz28 (ps x y)
            by_cases hm : pre ps x (y + 1) ∈ D
            · obtain ⟨c', hl', HG, c4⟩ : ∃ c', c' < D.length ∧ Hid (D.getD c' [] = pre ps x (y + 1)) ∧ (Instr.lookup 58 (.map (some (w.heap.size + 2 * c))) (.string (ps x y)) false).run Try.prog wr = .ok (.pointer (some ⟨w.heap.size + 2 * c' + 1, 0, none⟩)) wr := by
                refine ⟨ix D (pre ps x (y + 1)), ix_lt.2 hm, by unfold Hid; rw [List.getD, List.getElem?_eq_getElem (ix_lt.2 hm), Option.getD_some]; exact ix_get _, ?_⟩
                rw [hl1]
                simp only [litF]
                rw [if_neg HST.out, ← HPS.out, ptr?, if_pos (ix_lt.2 hm)]; rfl
              have HN := built_old HB hm
              clear hnode hlit HB hsz hnb hl1
              go_wp2_with (go_at_call 25; refine (litOf_any _ _ _ _ _ c3 c4).mono ?_; rintro e w' ⟨rfl, rfl⟩)
              go_roundw
              case rel => exact ⟨y + 1, c', D, E, by omega, by go_num, rfl, hl', HG, HN⟩
              case measure => simp only [intOf]; omega
            · have c4 : (Instr.lookup 58 (.map (some (w.heap.size + 2 * c))) (.string (ps x y)) false).run Try.prog wr = .ok (.pointer none) wr := by
                rw [hl1]
                simp only [litF]
                rw [if_neg HST.out, ← HPS.out, ptr?_none hm]; rfl
              have hnode' := hnode.of_block (newW_old wr _ hnode.lt)
              have hlit' := hlit.of_block (newW_old wr _ hlit.lt)
              have c5 : (newW wr).cell? ⟨w.heap.size + 2 * c + 1, 0, none⟩ = some (.map (some (w.heap.size + 2 * c))) := hnode'.cell (by omega)
              have c7 : (newW wr).cell? ⟨pb, po + y, none⟩ = some (.string (ps x y)) := by
                rw [World.cell?_of_block (w := wr) (newW_old wr _ (World.block_lt_of_cell? _ _ c2))]; exact c2
              obtain ⟨o, c6, hmap⟩ := hlit'.put Try.underlying58 Try.underlying9 (ps x y) (by simp only [litF]; rw [if_neg HST.out, ← HPS.out, ptr?_none hm]) (.pointer (some ⟨w.heap.size + 2 * D.length + 1, 0, none⟩))
              have HT : Tree (setBlock (newW wr) (w.heap.size + 2 * c) o) w.heap.size (D ++ [pre ps x (y + 1)]) E := by
                rw [HPS.out]
                exact tree_lit HB.tree HB.paths HB.size (HB.rest _ (Nat.le_refl _)) hc HST.out (by rw [← HPS.out]; exact hm) hmap
              have HN := built_new HB hm HT (by simp [setBlock, newW_size]) (below_setBlock hnb (by omega) o) hc HC.out
              have HS : Hid (wr.heap.size = w.heap.size + 2 * D.length) := HB.size
              have HG : Hid ((D ++ [pre ps x (y + 1)]).getD D.length [] = pre ps x (y + 1)) := by simp [Hid, List.getD]
              clear hnode hnode' hlit hlit' HB hsz hnb HT hmap hl1
              go_wp2_with (first
                | (go_at_call 25; refine (litOf_any _ _ _ _ _ c3 c4).mono ?_; rintro e w' ⟨rfl, rfl⟩)
                | (go_at_call 22; refine (newNode_at _ _ HS.out).mono ?_; rintro e w' ⟨rfl, rfl⟩)
                | (go_at_call 26; refine (setLit_any _ _ _ _ _ _ c5 c6).mono ?_; rintro e w' ⟨rfl, rfl⟩))
              go_roundw
              case rel => exact ⟨y + 1, D.length, D ++ [pre ps x (y + 1)], E, by omega, by go_num, rfl, by simp, HG, HN⟩
              case measure => simp only [intOf]; omega
        · obtain rfl : y = pn x := by omega
          have hnode := HB.tree.node c hc
          have c2 : wr.cell? ⟨w.heap.size + 2 * c + 1, 2, none⟩ = some (nodeF w.heap.size D E c 2) := hnode.cell (by omega)
          have c3 : wr.frozen? ⟨w.heap.size + 2 * c + 1, 2, none⟩ = false := hnode.frozen 2
          have c4 : wr.cell? ⟨gb, go + x * 2 + 1, none⟩ = some (.int .i32 (gs x)) := by rw [HB.below.cell (p := ⟨gb, go + x * 2 + 1, none⟩) b1]; exact c0
          have HN := built_end HB hc HC.out
          clear hnode HB hpc hpa c0
          go_wp2_with (go_at_call 27; refine (setEnd_any _ _ _ _ c2 c3).mono ?_; rintro e w' ⟨rfl, rfl⟩)
          go_roundw
          case rel => exact ⟨x + 1, by omega, by go_num, D, _, HN⟩
          case measure => simp only [intOf]; omega
    · obtain rfl : x = G := by omega
      clear hgc hgp hP
      go_wp2
      go_ret
      exact ⟨rfl, D, E, HB⟩
end Go.Proofs.Qxb6618426a
