import Derived.Test.Qxb6618426aWalk3
import Derived.Test.Qxb6618426aSizes3
namespace Go.Proofs.Qxb6618426a
open Go.RowKit

theorem Try.info41 : (Try.prog.info? 41).map (fun i => (i.zero, i.size, i.bytes)) = some (some (.slice none 0 0), 1, 24) := by kernel_rfl

theorem cell_new1 (w : World) (q : Nat) (v : Value) (t : TypeId) : ((w.drewN q).alloc (.cells #[v] t)).cell? ((⟨w.heap.size, 0, none⟩ : Addr).add 0) = some v := by
  show ((w.drewN q).alloc (.cells #[v] t)).cell? ⟨(w.drewN q).heap.size, 0, none⟩ = some v
  generalize w.drewN q = w'
  simp

/-- A row whose cells hold other things than the row that is stored into. -/
theorem RowAt.else {w : World} {a : Option Addr} {n : Nat} {f : Nat → Value} (h : RowAt w a n f) {B : Nat} {t : TypeId} {E : Nat} {F : Nat → Value}
    (hr : w.rowIs B t E F) (hF : ∀ j i, F j ≠ f i) (k : Nat) (v : Value) : RowAt (w.setCell ⟨B, k, none⟩ v) a n f := by
  obtain ⟨b, off, ha, hc⟩ := h
  refine ⟨b, off, ha, fun j hj => ?_⟩
  by_cases e : b = B
  · exfalso
    subst e
    have h1 := hc j hj
    obtain ⟨c, hb, hn, hcc⟩ := hr
    have h2 : w.cell? ⟨b, off + j, none⟩ = c[off + j]? := by simp [World.cell?, hb]
    rw [h2] at h1
    by_cases hl : off + j < E
    · rw [hcc _ hl] at h1
      simp only [Option.some.injEq] at h1
      exact hF _ _ h1
    · rw [Array.getElem?_eq_none (by omega)] at h1
      cases h1
  · rw [World.cell?_setCell_other _ _ _ _ (fun h => e (congrArg Addr.block h).symm)]
    exact hc j hj

theorem FiltOf.else {w : World} {a : Option Addr} {W n : Nat} {f : Nat → Int} (h : FiltOf w a W n f) {B : Nat} {t : TypeId} {E : Nat} {F : Nat → Value}
    (hr : w.rowIs B t E F) (hF : ∀ j x, F j ≠ .int .u64 x) (k : Nat) (v : Value) : FiltOf (w.setCell ⟨B, k, none⟩ v) a W n f := by
  obtain ⟨B', ⟨G, h1, h2⟩, h3⟩ := h
  exact ⟨B', ⟨G, h1.else hr (fun j i => hF j _) k v, h2⟩, h3⟩

/-- The filters made so far. -/
structure FillF (w wr : World) (C W : Nat) (ln : Nat → Nat) (lf : Nat → Nat → Int) (ff : Nat → Addr) (k : Nat) : Prop where
  below : Below w.heap.size w wr
  row : wr.rowIs w.heap.size 41 C (fun j => if j < k then .slice (some (ff j)) W W else .slice none 0 0)
  fl : ∀ j, j < k → FiltOf wr (some (ff j)) W (ln j) (lf j)

theorem FillF.start (w : World) (C W : Nat) (ln : Nat → Nat) (lf : Nat → Nat → Int) (ff : Nat → Addr) : FillF w (w.alloc (.cells (madeCells #[.slice none 0 0] C) 41)) C W ln lf ff 0 :=
  ⟨(Below.refl _ _).alloc (Nat.le_refl _) _, (World.rowIs_made w _ C 41).congr (fun j _ => by simp), fun j hj => by omega⟩

theorem FillF.next {w wr w1 : World} {C W : Nat} {ln : Nat → Nat} {lf : Nat → Nat → Int} {ff : Nat → Addr} {k : Nat} (h : FillF w wr C W ln lf ff k)
    (hb : Below wr.heap.size wr w1) {ad : Addr} (hr : FiltOf w1 (some ad) W (ln k) (lf k)) :
    ∃ ff', FillF w (w1.setCell ⟨w.heap.size, k, none⟩ (.slice (some ad) W W)) C W ln lf ff' (k + 1) := by
  have hlt := h.row.lt
  have hrow : w1.rowIs w.heap.size 41 C (fun j => if j < k then .slice (some (ff j)) W W else .slice none 0 0) := h.row.of_block (hb.block _ hlt)
  have hF : ∀ j x, (if j < k then (.slice (some (ff j)) W W : Value) else .slice none 0 0) ≠ .int .u64 x := by
    intro j x; split <;> simp
  refine ⟨fun j => if j = k then ad else ff j, (h.below.trans (hb.mono h.below.size)).setCell (Nat.le_refl _) _, (hrow.set k _).congr (fun j _ => ?_), fun j hj => ?_⟩
  · by_cases e : j = k
    · subst e; simp
    · rw [if_neg e]
      by_cases hl : j < k
      · rw [if_pos hl, if_pos (by omega)]; simp [e]
      · rw [if_neg hl, if_neg (by omega)]
  · by_cases e : j = k
    · subst e; simp only [if_true]; exact hr.else hrow hF _ _
    · simp only [if_neg e]; exact ((h.fl j (by omega)).below hb).else hrow hF _ _

theorem FillF.done {w wr : World} {C W : Nat} {ln : Nat → Nat} {lf : Nat → Nat → Int} {ff : Nat → Addr} (h : FillF w wr C W ln lf ff C) : FiltersAt wr (some ⟨w.heap.size, 0, none⟩) C W ln lf :=
  ⟨ff, rowAt_of_rowIs (h.row.congr (fun j hj => by rw [if_pos hj])), h.fl⟩

/-- The bits of the first k sets. -/
structure FillB (w wr : World) (n : Nat) (sh : Nat → Bool) (F : Nat → Int) (k : Nat) : Prop where
  below : Below w.heap.size w wr
  row : wr.rowIs w.heap.size 45 n (fun j => .int .u64 (F j))
  bit : ∀ s, s < 64 * n → bitAt (F (s / 64)) (s % 64) = (decide (s < k) && sh s)

theorem FillB.start (w : World) (n : Nat) (sh : Nat → Bool) : FillB w (w.alloc (.cells (madeCells #[.int .u64 0] n) 45)) n sh (fun _ => 0) 0 :=
  ⟨(Below.refl _ _).alloc (Nat.le_refl _) _, World.rowIs_made w _ n 45, fun s hs => by rw [bitAt_zero _ (Nat.mod_lt _ (by omega))]; simp⟩

theorem FillB.skip {w wr w1 : World} {n : Nat} {sh : Nat → Bool} {F : Nat → Int} {k : Nat} (h : FillB w wr n sh F k) (hd : Dr wr w1) (hk : sh k = false) : FillB w w1 n sh F (k + 1) := by
  obtain ⟨q, rfl⟩ := hd
  refine ⟨below_drewN h.below q, h.row, fun s hs => ?_⟩
  rw [h.bit s hs]
  by_cases e : s = k
  · subst e; simp [hk]
  · have : decide (s < k + 1) = decide (s < k) := by rw [decide_eq_decide]; omega
    rw [this]

theorem FillB.put {w wr w1 : World} {n : Nat} {sh : Nat → Bool} {F : Nat → Int} {k : Nat} (h : FillB w wr n sh F k) (hd : Dr wr w1) (hk : sh k = true) :
    ∃ F', FillB w (w1.setCell ⟨w.heap.size, k / 64, none⟩ (.int .u64 (setAt (F (k / 64)) (k % 64)))) n sh F' (k + 1) := by
  obtain ⟨q, rfl⟩ := hd
  refine ⟨fun j => if j = k / 64 then setAt (F (k / 64)) (k % 64) else F j, (below_drewN h.below q).setCell (Nat.le_refl _) _, ?_, fun s hs => ?_⟩
  · refine (World.rowIs.set (w := wr.drewN q) (f := fun j => .int .u64 (F j)) h.row (k / 64) (.int .u64 (setAt (F (k / 64)) (k % 64)))).congr (fun j _ => ?_)
    by_cases e : j = k / 64 <;> simp [e]
  · by_cases e : s / 64 = k / 64
    · rw [if_pos e, bitAt_setAt _ _ _ (Nat.mod_lt _ (by omega)) (Nat.mod_lt _ (by omega))]
      have := h.bit s hs
      rw [e] at this
      rw [this]
      by_cases e2 : s = k
      · subst e2; simp [hk]
      · have h1 : ¬ k % 64 = s % 64 := by omega
        have h2 : decide (s < k + 1) = decide (s < k) := by rw [decide_eq_decide]; omega
        rw [h2]; simp [h1]
    · rw [if_neg e, h.bit s hs]
      have h2 : decide (s < k + 1) = decide (s < k) := by rw [decide_eq_decide]; omega
      rw [h2]

theorem FillB.done {w wr : World} {n : Nat} {sh : Nat → Bool} {F : Nat → Int} {k : Nat} (h : FillB w wr n sh F k) : FiltAt wr (some ⟨w.heap.size, 0, none⟩) n (fun s => decide (s < k) && sh s) :=
  ⟨F, rowAt_of_rowIs h.row, h.bit⟩

/-- The ids of the sets below k that share a role. -/
def idsL (sh : Nat → Bool) (k : Nat) : List Int := ((List.range k).filter sh).map (fun (s : Nat) => (s : Int))
theorem idsL_hit {sh : Nat → Bool} {k : Nat} (h : sh k = true) : idsL sh (k + 1) = idsL sh k ++ [(k : Int)] := by
  simp [idsL, List.range_succ, List.filter_append, h]
theorem idsL_miss {sh : Nat → Bool} {k : Nat} (h : sh k = false) : idsL sh (k + 1) = idsL sh k := by
  simp [idsL, List.range_succ, List.filter_append, h]
theorem idsL_len (sh : Nat → Bool) (k : Nat) : (idsL sh k).length ≤ k := by
  have := List.length_filter_le sh (List.range k)
  simpa [idsL] using this
theorem idsL_mem (sh : Nat → Bool) (k : Nat) (x : Int) : x ∈ idsL sh k ↔ ∃ s : Nat, s < k ∧ sh s = true ∧ x = s := by
  simp only [idsL, List.mem_map, List.mem_filter, List.mem_range]
  constructor
  · rintro ⟨s, ⟨h1, h2⟩, e⟩; exact ⟨s, h1, h2, e.symm⟩
  · rintro ⟨s, h1, h2, e⟩; exact ⟨s, ⟨h1, h2⟩, e.symm⟩
theorem idsL_sorted (sh : Nat → Bool) (k : Nat) : (idsL sh k).Pairwise (· ≤ ·) := by
  induction k with
  | zero => simp [idsL]
  | succ k ih =>
    cases h : sh k with
    | true =>
      rw [idsL_hit h, List.pairwise_append]
      refine ⟨ih, by simp, fun a ha b hb => ?_⟩
      obtain ⟨s, h1, _, rfl⟩ := (idsL_mem sh k a).1 ha
      simp at hb; omega
    | false => rw [idsL_miss h]; exact ih

theorem mono_of_pairwise {l : List Int} (h : l.Pairwise (· ≤ ·)) : Mono l.length (fun j => l.getD j 0) := by
  intro i j hij hj
  have hp := List.pairwise_iff_getElem.1 h
  simp only [List.getD, List.getElem?_eq_getElem hj, List.getElem?_eq_getElem (show i < l.length by omega), Option.getD_some]
  by_cases e : i = j
  · subst e; exact Int.le_refl _
  · exact hp i j (by omega) hj (by omega)

theorem idsL_found (sh : Nat → Bool) (k s : Nat) (hs : s < k) : bsFound (idsL sh k).length (fun j => (idsL sh k).getD j 0) s = sh s := by
  rw [Bool.eq_iff_iff, bsFound_iff (mono_of_pairwise (idsL_sorted sh k))]
  constructor
  · rintro ⟨j, hj, e⟩
    have hm : (s : Int) ∈ idsL sh k := by
      rw [← e, List.getD, List.getElem?_eq_getElem hj, Option.getD_some]; exact List.getElem_mem hj
    obtain ⟨t, _, h2, h3⟩ := (idsL_mem sh k _).1 hm
    have : t = s := by omega
    subst this; exact h2
  · intro h
    have hm : (s : Int) ∈ idsL sh k := (idsL_mem sh k _).2 ⟨s, hs, h, rfl⟩
    obtain ⟨j, hj, e⟩ := List.getElem_of_mem hm
    exact ⟨j, hj, by simp only [List.getD, List.getElem?_eq_getElem hj, Option.getD_some]; exact e⟩

/-- From an owned row of numbers to the row. -/
theorem rowAt_of_owns {w : World} {base : Nat} {v : Value} {n : Nat} {l : List Int} (h : w.ownsRow base 21 1 v n (l.map (Value.int .i32))) :
    ∃ a c, v = .slice a n c ∧ RowAt w a n (fun j => .int .i32 (l.getD j 0)) := by
  obtain ⟨hlen, h2⟩ := h
  rcases h2 with ⟨rfl, rfl⟩ | ⟨g, cap, cur, rfl, hb, hg, hn, hm, hs, ht⟩
  · exact ⟨none, 0, rfl, 0, 0, fun hh => by omega, fun j hj => by omega⟩
  · refine ⟨_, _, rfl, g, 0, fun _ => rfl, fun j hj => ?_⟩
    simp only [Nat.mul_one] at ht hlen
    have h3 : (cur.toList.take n)[j]? = (l.map (Value.int .i32))[j]? := by rw [ht]
    rw [List.getElem?_take_of_lt hj] at h3
    have hj' : j < l.length := by simpa using (by rw [← hlen] at hj; exact hj : j < (l.map (Value.int .i32)).length)
    simp only [Nat.zero_add, World.cell?, hg]
    simp only [Option.isSome_none, Bool.false_eq_true, if_false]
    rw [← Array.getElem?_toList, h3]
    simp [List.getD, List.getElem?_eq_getElem hj']
end Go.Proofs.Qxb6618426a
