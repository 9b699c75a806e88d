import Derived.Test.Qxb6620807aRun
namespace Go.Proofs.Qxb6620807a
open Go.RowKit
set_option linter.unusedVariables false

/-- A row that lies outside block g. -/
def RowOff (g : Nat) (w : World) (a : Option Addr) (n : Nat) (f : Nat → Value) : Prop :=
  ∃ b off, b ≠ g ∧ (0 < n → a = some ⟨b, off, none⟩) ∧ ∀ j, j < n → w.cell? ⟨b, off + j, none⟩ = some (f j)
theorem RowOff.at {g : Nat} {w : World} {a : Option Addr} {n : Nat} {f : Nat → Value} (h : RowOff g w a n f) : RowAt w a n f := by
  obtain ⟨b, off, _, h1, h2⟩ := h; exact ⟨b, off, h1, h2⟩
theorem RowOff.nil (g : Nat) (w : World) (a : Option Addr) (f : Nat → Value) : RowOff g w a 0 f := ⟨g + 1, 0, by omega, fun h => absurd h (by omega), fun j hj => absurd hj (by omega)⟩
theorem RowOff.set {g : Nat} {w : World} {a : Option Addr} {n : Nat} {f : Nat → Value} (h : RowOff g w a n f) (o : Nat) (u : Value) : RowOff g (w.setCell ⟨g, o, none⟩ u) a n f := by
  obtain ⟨b, off, h0, h1, h2⟩ := h
  refine ⟨b, off, h0, h1, fun j hj => ?_⟩
  have hb : (w.setCell ⟨g, o, none⟩ u).heap[b]? = w.heap[b]? := Go.Deep.blk_setCell_other _ _ _ _ h0
  rw [World.cell?_of_block (w := w) (a := ⟨b, off + j, none⟩) hb]; exact h2 j hj

/-- A row in block b, which is not g. -/
def RowIn (b g : Nat) (w : World) (a : Option Addr) (n : Nat) (f : Nat → Value) : Prop :=
  ∃ off, b ≠ g ∧ (0 < n → a = some ⟨b, off, none⟩) ∧ ∀ j, j < n → w.cell? ⟨b, off + j, none⟩ = some (f j)
theorem RowIn.set {b g : Nat} {w : World} {a : Option Addr} {n : Nat} {f : Nat → Value} (h : RowIn b g w a n f) (o : Nat) (u : Value) : RowIn b g (w.setCell ⟨g, o, none⟩ u) a n f := by
  obtain ⟨off, h0, h1, h2⟩ := h
  refine ⟨off, h0, h1, fun j hj => ?_⟩
  have hb : (w.setCell ⟨g, o, none⟩ u).heap[b]? = w.heap[b]? := Go.Deep.blk_setCell_other _ _ _ _ h0
  rw [World.cell?_of_block (w := w) (a := ⟨b, off + j, none⟩) hb]; exact h2 j hj
theorem RowIn.nil {b g : Nat} (h : b ≠ g) (w : World) (a : Option Addr) (f : Nat → Value) : RowIn b g w a 0 f := ⟨0, h, fun h => absurd h (by omega), fun j hj => absurd hj (by omega)⟩

/-- Only block g has turned. -/
structure Only (g : Nat) (w w' : World) : Prop where
  os : w'.os = w.os
  tape : w'.tape = w.tape
  output : w'.output = w.output
  size : w'.heap.size = w.heap.size
  block : ∀ k, k ≠ g → w'.heap[k]? = w.heap[k]?
theorem Only.refl (g : Nat) (w : World) : Only g w w := ⟨rfl, rfl, rfl, rfl, fun _ _ => rfl⟩
theorem Only.drewN {g : Nat} {w w' : World} (h : Only g w w') (q : Nat) : Only g w (w'.drewN q) := by
  have b := below_drewN (Below.refl 0 w') q
  exact ⟨b.os.trans h.os, b.tape.trans h.tape, b.output.trans h.output, h.size, h.block⟩
theorem Only.set {g : Nat} {w w' : World} (h : Only g w w') (o : Nat) (u : Value) : Only g w (w'.setCell ⟨g, o, none⟩ u) :=
  ⟨h.os, h.tape, h.output, by rw [size_set]; exact h.size, fun k hk => by rw [Go.Deep.blk_setCell_other _ _ _ _ hk]; exact h.block k hk⟩
theorem Only.below {g : Nat} {w w' : World} (h : Only g w w') : Below g w w' := ⟨h.os, h.tape, h.output, Nat.le_of_eq h.size.symm, fun k hk => h.block k (by omega)⟩

/-- A run that may still take up what follows it. -/
structure Loose (u : Int) (Z : List Int) : Prop where
  up0 : 0 ≤ u
  upM : u ≤ 18446744073709551615
  asc : Asc Z
  lo : ∀ x ∈ Z, u < x
  hi : ∀ x ∈ Z, x ≤ 18446744073709551615

theorem Loose.take {u : Int} {Z : List Int} (h : Loose u ((u + 1) :: Z)) : Loose (u + 1) Z ∧ ∀ x, inR (u + 1) Z x ↔ inR u ((u + 1) :: Z) x := by
  obtain ⟨h1, h2⟩ := List.pairwise_cons.1 h.asc
  refine ⟨⟨by have := h.up0; omega, h.hi _ (by simp), h2, fun x hx => h1 x hx, fun x hx => h.hi x (by simp [hx])⟩, fun x => ?_⟩
  have := h.up0
  unfold inR
  simp only [List.mem_cons]
  constructor
  · rintro (k | k)
    · by_cases e : x = u + 1
      · exact Or.inr (Or.inl e)
      · exact Or.inl ⟨k.1, by omega⟩
    · exact Or.inr (Or.inr k)
  · rintro (k | k | k)
    · exact Or.inl ⟨k.1, by omega⟩
    · subst k; exact Or.inl ⟨by omega, by omega⟩
    · exact Or.inr k
theorem Loose.done {u : Int} {Z : List Int} (h : Loose u Z) (hz : ∀ x, Z.head? = some x → x ≠ u + 1) : RunOK u Z := by
  refine ⟨h.up0, h.upM, h.asc, fun x hx => ?_, h.hi⟩
  cases Z with
  | nil => simp at hx
  | cons y Z =>
    have hy := hz y rfl
    have h1 := h.lo y (by simp)
    rcases List.mem_cons.1 hx with rfl | m
    · omega
    · have := (List.pairwise_cons.1 h.asc).1 x m; omega

/-- The length of the slice in a run's third cell. -/
def lenAt (g : Nat) (w : World) : Nat := match w.cell? ⟨g, 2, none⟩ with
  | some (.slice _ n _) => n
  | _ => 0
theorem lenAt_of {g : Nat} {w : World} {x y : Value} {a : Option Addr} {n c : Nat} (h : Trip w g x y (.slice a n c)) : lenAt g w = n := by unfold lenAt; rw [h.c2]

structure Absorb (b g : Nat) (s : ByteArray) (u : Int) (Z : List Int) (w w' : World) (u' : Int) (Z' : List Int) (a' : Option Addr) (c' : Nat) : Prop where
  loose : Loose u' Z'
  same : ∀ x, inR u' Z' x ↔ inR u Z x
  le : Z'.length ≤ Z.length
  cap : Z'.length ≤ c'
  cap2 : c' ≤ 1099511627776
  trip : Trip w' g (.string s) (.int .u64 u') (.slice a' Z'.length c')
  row : RowIn b g w' a' Z'.length (fun j => .int .u64 (ix Z' j))
  only : Only g w w'

theorem Trip.drewN {w : World} {g : Nat} {x y z : Value} (h : Trip w g x y z) (q : Nat) : Trip (w.drewN q) g x y z := ⟨h.c0, h.c1, h.c2, h.fr, h.lt⟩
theorem Absorb.drewN {b g : Nat} {s : ByteArray} {u : Int} {Z : List Int} {w w' : World} {u' : Int} {Z' : List Int} {a' : Option Addr} {c' : Nat} (h : Absorb b g s u Z w w' u' Z' a' c') (q : Nat) : Absorb b g s u Z w (w'.drewN q) u' Z' a' c' :=
  ⟨h.loose, h.same, h.le, h.cap, h.cap2, h.trip.drewN q, h.row, h.only.drewN q⟩

set_option maxHeartbeats 1000000 in
theorem absorb_f (b g : Nat) (s : ByteArray) (u : Int) (a : Option Addr) (c : Nat) (Z : List Int) (w : World) (hn : Z.length ≤ 33554432) (h0 : Absorb b g s u Z w w u Z a c) :
    Calls Try.prog 39 #[.pointer (some ⟨g, 0, none⟩)] w (fun e w' => ∃ v u' Z' a' c', e = .returned v ∧ Absorb b g s u Z w w' u' Z' a' c' ∧ RunOK u' Z') := by
  go_enter Try.func39, Try.ntmps39
  go_wp2_with fail
  go_loopw [2] (fun v wr => ∃ u' Z' a' c', Absorb b g s u Z w wr u' Z' a' c') (fun _ wr => lenAt g wr)
  case atStart => exact ⟨u, Z, a, c, h0⟩
  case round =>
    obtain ⟨u', Z', a', c', H⟩ := hrel
    have HH : Hid (Absorb b g s u Z w wr u' Z' a' c') := H
    have hm := lenAt_of H.trip
    cases Z' with
    | nil =>
      obtain ⟨k0, k1, k2, kf, kl⟩ := H.trip
      simp only [List.length_nil] at k2
      have HR : Hid (RunOK u' []) := H.loose.done (by simp)
      clear H hm kf
      go_wp2_with fail
      go_quiet (fail)
      go_wp2_with fail
      go_end0
      exact ⟨_, u', [], a', c', rfl, HH.out.drewN _, HR.out⟩
    | cons z Z' =>
      obtain ⟨k0, k1, k2, kf, kl⟩ := H.trip
      simp only [List.length_cons] at k2
      obtain ⟨off, hbg, ha, hc⟩ := H.row
      obtain rfl := ha (by simp)
      have q0 : wr.cell? ⟨b, off, none⟩ = some (.int .u64 z) := by simpa [ix] using hc 0 (by simp)
      have hlo := H.loose.lo z (by simp)
      have hhi := H.loose.hi z (by simp)
      have hu0 := H.loose.up0
      have kf1 := kf 1
      have kf2 := kf 2
      have cap := H.cap
      have cap2 := H.cap2
      have hle := H.le
      simp only [List.length_cons] at cap hle
      generalize hN : Z'.length = N at *
      by_cases hz : z = u' + 1
      · subst hz
        obtain ⟨hl', hs'⟩ := H.loose.take
        have HS : Hid (∀ x, inR (u' + 1) Z' x ↔ inR u Z x) := fun x => (hs' x).trans (H.same x)
        have HL : Hid (Loose (u' + 1) Z') := hl'
        have HT : Hid (RowIn b g wr (some ⟨b, off + 1, none⟩) Z'.length (fun j => .int .u64 (ix Z' j))) := by
          refine ⟨off + 1, hbg, fun _ => rfl, fun j hj => ?_⟩
          have := hc (j + 1) (by simp; omega)
          rw [show off + 1 + j = off + (j + 1) from by omega]
          simpa [ix] using this
        have HM : Hid (lenAt g wr = N + 1) := by unfold Hid; rw [hm]; simp [hN]
        have HN : Hid (Z'.length = N) := hN
        have ht : ((u' + 1 : Int) == u' + 1) = true := by simp
        clear H hm kf hc hN hl' hs'
        by_cases hc1 : c' = 1
        · subst hc1
          obtain rfl : N = 0 := by omega
          go_wp2_with fail
          go_quiet (fail)
          go_wp2_with fail
          have TT := ((HH.out.trip.drewN nq).set1 (.int .u64 (u' + 1))).set2 (.slice (some ⟨b, off, none⟩) 0 0)
          go_roundw
          case rel => exact ⟨u' + 1, Z', _, 0, HL.out, HS.out, by rw [HN.out]; omega, by rw [HN.out]; omega, by omega, by rw [HN.out]; exact TT, by rw [HN.out]; exact RowIn.nil hbg _ _ _, ((HH.out.only.drewN nq).set 1 _).set 2 _⟩
          case measure => rw [lenAt_of TT, HM.out]; omega
        · go_wp2_with fail
          go_quiet (fail)
          go_wp2_with fail
          have TT := ((HH.out.trip.drewN nq).set1 (.int .u64 (u' + 1))).set2 (.slice (some ⟨b, off + 1, none⟩) N (c' - 1))
          have RR := ((show RowIn b g (wr.drewN nq) (some ⟨b, off + 1, none⟩) Z'.length (fun j => .int .u64 (ix Z' j)) from HT.out).set 1 (.int .u64 (u' + 1))).set 2 (.slice (some ⟨b, off + 1, none⟩) N (c' - 1))
          go_roundw
          case rel => exact ⟨u' + 1, Z', _, c' - 1, HL.out, HS.out, by rw [HN.out]; omega, by rw [HN.out]; omega, by omega, by rw [HN.out]; exact TT, RR, ((HH.out.only.drewN nq).set 1 _).set 2 _⟩
          case measure => rw [lenAt_of TT, HM.out]; omega
      · have HR : Hid (RunOK u' (z :: Z')) := H.loose.done (by intro x hx; simp at hx; subst hx; exact hz)
        have hz' : (z == u' + 1) = false := by simp [hz]
        clear H hm kf hc hN
        go_wp2_with fail
        go_quiet (fail)
        go_wp2_with fail
        go_end0
        exact ⟨_, u', z :: Z', _, c', rfl, HH.out.drewN _, HR.out⟩
end Go.Proofs.Qxb6620807a
