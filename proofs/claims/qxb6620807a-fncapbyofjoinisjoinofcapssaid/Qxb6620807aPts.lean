import Derived.Test.Qxb6620807aRead
namespace Go.Proofs.Qxb6620807a
open Go.RowKit
set_option linter.unusedVariables false

theorem ownsRow_below {w w' : World} {B : Nat} {e : TypeId} {size : Nat} {v : Value} {n : Nat} {xs : List Value} (h : w.ownsRow B e size v n xs) (hb : Below w.heap.size w w') : w'.ownsRow B e size v n xs := by
  refine ⟨h.1, ?_⟩
  rcases h.2 with k | ⟨g, cap, cur, h1, h2, h3, h4⟩
  · exact Or.inl k
  · refine Or.inr ⟨g, cap, cur, h1, h2, ?_, h4⟩
    have : g < w.heap.size := by
      apply Nat.lt_of_not_le
      intro hle
      rw [Array.getElem?_eq_none hle] at h3
      cases h3
    rw [hb.block g this]; exact h3

/-- A row of points of one's own: counters. -/
def Pts (B : Nat) (w : World) (v : Value) (N : Nat) : Prop := ∃ k xs, k ≤ N ∧ w.ownsRow B 41 1 v k xs ∧ ∀ x ∈ xs, ∃ i, x = Value.int .u64 i
theorem Pts.nil (B : Nat) (w : World) : Pts B w (.slice none 0 0) 0 := ⟨0, [], Nat.le_refl _, World.ownsRow_nil _ _ _ _, fun x hx => by simp at hx⟩
theorem Pts.mono {B : Nat} {w : World} {v : Value} {N M : Nat} (h : Pts B w v N) (hM : N ≤ M) : Pts B w v M := by
  obtain ⟨k, xs, h1, h2, h3⟩ := h; exact ⟨k, xs, by omega, h2, h3⟩
theorem Pts.now {B : Nat} {w w' : World} {v : Value} {N : Nat} (h : Pts B w v N) (hb : Below w.heap.size w w') : Pts B w' v N := by
  obtain ⟨k, xs, h1, h2, h3⟩ := h; exact ⟨k, xs, h1, ownsRow_below h2 hb, h3⟩
/-- What a point maker hands back. -/
def Pointed (B : Nat) (w0 : World) (N : Nat) (w' : World) (e : Ending) : Prop := ∃ v', e = .returned v' ∧ Pts B w' v' N ∧ Below B w0 w'

theorem new2 (w : World) (x y : Value) (t : TypeId) : ∀ j u, [x, y][j]? = some u → (w.alloc (.cells #[x, y] t)).cell? (Addr.add ⟨w.heap.size, 0, none⟩ j) = some u := by
  intro j u hj
  match j, hj with
  | 0, hj => simp at hj; subst hj; simp [Addr.add]
  | 1, hj => simp at hj; subst hj; simp [Addr.add]
  | j + 2, hj => simp at hj

theorem size_alloc_le2 {B : Nat} {w : World} (h : B ≤ w.heap.size) (o : Obj) : B ≤ (w.alloc o).heap.size := by rw [Go.Deep.nblk_alloc]; omega
theorem pts_step {B : Nat} {w0 w w' : World} {v : Value} {k : Nat} {xs : List Value} (hB : w0.heap.size ≤ B) (hBw : B ≤ w.heap.size) (hb : Below B w0 w) (o : Obj) (hown : w.ownsRow B 41 1 v k xs) (hg : (w.alloc o).grownBy w' v.ownBlock) : Below B w0 w' :=
  (hb.alloc hBw o).grown hg (by rw [Go.Deep.nblk_alloc]; omega) (fun x hx => (hown.lt x hx).1)

theorem ints_one {xs : List Value} (h : ∀ x ∈ xs, ∃ i, x = Value.int .u64 i) (y : Int) : Hid (∀ x ∈ xs ++ [.int .u64 y], ∃ i, x = Value.int .u64 i) := by
  intro x hx
  rcases List.mem_append.1 hx with k | k
  · exact h x k
  · simp at k; exact ⟨y, k⟩
theorem ints_two {xs : List Value} (h : ∀ x ∈ xs, ∃ i, x = Value.int .u64 i) {y z : Int} : Hid (∀ x ∈ xs ++ [.int .u64 y, .int .u64 z], ∃ i, x = Value.int .u64 i) := by
  intro x hx
  rcases List.mem_append.1 hx with k | k
  · exact h x k
  · simp at k; rcases k with k | k
    · exact ⟨y, k⟩
    · exact ⟨z, k⟩

set_option maxHeartbeats 1000000 in
theorem runPoints_f (B : Nat) (w0 w : World) (v : Value) (N : Nat) (u : Int) (a : Option Addr) (n c : Nat) (f : Nat → Int) (hn : n ≤ 16777216) (hN : N ≤ 1073741824) (hB : w0.heap.size ≤ B) (hBw : B ≤ w.heap.size) (hb : Below B w0 w)
    (hu0 : 0 ≤ u) (hu1 : u ≤ 18446744073709551615) (hf : ∀ j, j < n → In64 (f j)) (hrow : RowAt w0 a n (fun j => .int .u64 (f j))) (hp : Pts B w v N) :
    Calls Try.prog 27 #[v, .int .u64 u, .slice a n c] w (fun e w' => Pointed B w0 (N + 3 + 2 * n) w' e) := by
  obtain ⟨i41, hi41, hz41, hs41, hb41⟩ := info_parts Try.info41
  obtain ⟨k, xs, hk, hown, hxs⟩ := hp
  have HX : Hid (∀ x ∈ xs, ∃ i, x = Value.int .u64 i) := hxs
  have HB0 : Hid (Below B w0 w) := hb
  obtain ⟨b, off, ha, hc⟩ := hrow
  have HC : Hid (∀ wr, Below B w0 wr → ∀ j, j < n → wr.cell? ⟨b, off + j, none⟩ = some (.int .u64 (f j))) := by
    intro wr hwr j hj
    rw [hwr.cell (p := ⟨b, off + j, none⟩) (Nat.lt_of_lt_of_le (World.block_lt_of_cell? _ _ (hc j hj)) hB)]; exact hc j hj
  have HF : Hid (∀ j, j < n → In64 (f j)) := hf
  clear hxs hb hc hf
  go_enter Try.func27, Try.ntmps27
  go_wp2_with (at_builtin; refine wpList_append_own _ rfl _ _ 23 rfl B 41 i41 _ 1 8 Try.underlying23 hi41 hz41 hs41 hb41 rfl (by decide) v k xs rfl (World.ownsRow.alloc hown _) ⟨w.heap.size, 0, none⟩ 2 2 [.int .u64 1, .int .u64 u] rfl rfl (new2 _ _ _ _) (by simp [Value.oneCell']) (by unfold maxLen; omega) (by omega) (size_alloc_le2 hBw _) ?_)
  intro v1 w1 own1 gr1 _
  have b1 := pts_step hB hBw HB0.out _ hown gr1
  have hBw1 : B ≤ w1.heap.size := Nat.le_trans (size_alloc_le2 hBw _) gr1.size
  have HX1 : Hid (∀ x ∈ xs ++ [.int .u64 1, .int .u64 u], ∃ i, x = Value.int .u64 i) := ints_two HX.out
  generalize xs ++ [.int .u64 1, .int .u64 u] = xs1 at *
  clear hown HX HB0 hBw gr1
  go_upto_if 14 with fail
  go_cut [0] (fun va wc => ∃ k' xs', k' ≤ N + 3 ∧ wc.ownsRow B 41 1 va k' xs' ∧ Below B w0 wc ∧ B ≤ wc.heap.size ∧ Hid (∀ x ∈ xs', ∃ i, x = Value.int .u64 i))
  case first =>
    by_cases hlt : u < 18446744073709551615
    · go_wp2_with (at_builtin; refine wpList_append_own _ rfl _ _ 23 rfl B 41 i41 _ 1 8 Try.underlying23 hi41 hz41 hs41 hb41 rfl (by decide) v1 (k + 2) xs1 rfl (World.ownsRow.alloc own1 _) ⟨w1.heap.size, 0, none⟩ 1 1 [.int .u64 (u + 1)] rfl rfl (new1 _ _ _) (by simp [Value.oneCell']) (by unfold maxLen; omega) (by omega) (size_alloc_le2 hBw1 _) ?_)
      intro v2 w2 own2 gr2 _
      have b2 := pts_step hB hBw1 b1 _ own1 gr2
      have hBw2 : B ≤ w2.heap.size := Nat.le_trans (size_alloc_le2 hBw1 _) gr2.size
      have HX2 := ints_one HX1.out (u + 1)
      go_wp2_with fail
      go_meet
      case rel => exact ⟨k + 2 + 1, _, by omega, own2, b2, hBw2, HX2⟩
    · obtain rfl : u = 18446744073709551615 := by omega
      go_wp2_with fail
      go_meet
      case rel => exact ⟨k + 2, _, by omega, own1, b1, hBw1, HX1⟩
  case rest =>
    obtain ⟨k', xs', hk', hown, hb, hBw, HX⟩ := hcut
    clear own1 b1 hBw1 HX1 hk
    go_wp2_with fail
    go_loopw [0, 7] (fun va i wr => ∃ j k' xs', i = .int .i64 (j : Nat) ∧ j ≤ n ∧ k' ≤ N + 3 + 2 * j ∧ wr.ownsRow B 41 1 va k' xs' ∧ Below B w0 wr ∧ B ≤ wr.heap.size ∧ Hid (∀ x ∈ xs', ∃ i, x = Value.int .u64 i)) (fun _ i _ => n - (intOf i).toNat)
    case atStart => exact ⟨0, k', xs', rfl, by omega, by omega, hown, hb, hBw, HX⟩
    case round =>
      clear hown hb hBw HX hk'
      obtain ⟨j, k', xs', rfl, hj, hk', hown, hb, hBw, HX⟩ := hrel
      by_cases hlt : j < n
      · obtain rfl := ha (by omega)
        have c1 := HC.out wr hb j hlt
        obtain ⟨g0, g1⟩ := HF.out j hlt
        generalize f j = x at *
        go_wp2_with (at_builtin; refine wpList_append_own _ rfl _ _ 23 rfl B 41 i41 _ 1 8 Try.underlying23 hi41 hz41 hs41 hb41 rfl (by decide) _ k' xs' rfl (World.ownsRow.alloc hown _) ⟨wr.heap.size, 0, none⟩ 1 1 [.int .u64 x] rfl rfl (new1 _ _ _) (by simp [Value.oneCell']) (by unfold maxLen; omega) (by omega) (size_alloc_le2 hBw _) ?_)
        intro v1 w1 own1 gr1 _
        have b1 := pts_step hB hBw hb _ hown gr1
        have hBw1 : B ≤ w1.heap.size := Nat.le_trans (size_alloc_le2 hBw _) gr1.size
        have HX1 : Hid (∀ z ∈ xs' ++ [.int .u64 x], ∃ i, z = Value.int .u64 i) := ints_one HX.out x
        generalize xs' ++ [.int .u64 x] = xs1 at *
        clear hown HX hb hBw gr1 c1
        by_cases hm : x < 18446744073709551615
        · go_wp2_with (at_builtin; refine wpList_append_own _ rfl _ _ 23 rfl B 41 i41 _ 1 8 Try.underlying23 hi41 hz41 hs41 hb41 rfl (by decide) v1 (k' + 1) xs1 rfl (World.ownsRow.alloc own1 _) ⟨w1.heap.size, 0, none⟩ 1 1 [.int .u64 (x + 1)] rfl rfl (new1 _ _ _) (by simp [Value.oneCell']) (by unfold maxLen; omega) (by omega) (size_alloc_le2 hBw1 _) ?_)
          intro v2 w2 own2 gr2 _
          have b2 := pts_step hB hBw1 b1 _ own1 gr2
          have hBw2 : B ≤ w2.heap.size := Nat.le_trans (size_alloc_le2 hBw1 _) gr2.size
          have HX2 := ints_one HX1.out (x + 1)
          clear own1 b1 hBw1 HX1
          go_wp2_with fail
          go_roundw
          case rel => exact ⟨j + 1, k' + 1 + 1, _, by go_num, by omega, by omega, own2, b2, hBw2, HX2⟩
          case measure => simp only [intOf]; omega
        · obtain rfl : x = 18446744073709551615 := by omega
          go_wp2_with fail
          go_roundw
          case rel => exact ⟨j + 1, k' + 1, _, by go_num, by omega, by omega, own1, b1, hBw1, HX1⟩
          case measure => simp only [intOf]; omega
      · obtain rfl : n = j := by omega
        go_wp2_with fail
        go_ret
        exact ⟨_, rfl, ⟨k', xs', hk', hown, HX.out⟩, hb⟩
end Go.Proofs.Qxb6620807a
