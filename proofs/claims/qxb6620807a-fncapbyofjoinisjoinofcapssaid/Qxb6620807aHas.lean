import Derived.Test.Qxb6620807aFind
namespace Go.Proofs.Qxb6620807a
open Go.RowKit
set_option linter.unusedVariables false

theorem RowAt.drewN {w : World} {a : Option Addr} {n : Nat} {f : Nat → Value} (h : RowAt w a n f) (q : Nat) : RowAt (w.drewN q) a n f := h

theorem Says.fix {p : Prop} {w w' : World} {e : Ending} (h : Says p w w' e) : e = .returned (.bool (@decide p (Classical.propDecidable p))) ∧ ∃ m, w' = w.drewN m := by
  obtain ⟨b, rfl, hb, q, rfl⟩ := h
  refine ⟨ret_bool ?_, q, rfl⟩
  cases b with
  | true => rw [eq_comm]; simpa using hb.1 rfl
  | false =>
    rw [eq_comm]
    have : ¬ p := fun hp => by have := hb.2 hp; cases this
    simpa using this
theorem Says.yes {p : Prop} {w w' : World} {e : Ending} (hp : p) (h : Says p w w' e) : e = .returned (.bool true) ∧ ∃ m, w' = w.drewN m := by
  obtain ⟨b, rfl, hb, q, rfl⟩ := h
  exact ⟨ret_bool (hb.2 hp), q, rfl⟩
theorem Says.no {p : Prop} {w w' : World} {e : Ending} (hp : ¬ p) (h : Says p w w' e) : e = .returned (.bool false) ∧ ∃ m, w' = w.drewN m := by
  obtain ⟨b, rfl, hb, q, rfl⟩ := h
  refine ⟨ret_bool ?_, q, rfl⟩
  cases b with
  | true => exact absurd (hb.1 rfl) hp
  | false => rfl

/-- A context in memory: three slices. -/
structure Rows3 (w : World) (a1 a2 a3 : Option Addr) (n : Nat) (S : Nat → ByteArray) (U : Nat → Int) (A : Nat → Option Addr) (L C : Nat → Nat) (F : Nat → Nat → Int) : Prop where
  s : RowAt w a1 n (fun j => .string (S j))
  u : RowAt w a2 n (fun j => .int .u64 (U j))
  b : RowAt w a3 n (fun j => .slice (A j) (L j) (C j))
  f : ∀ j, j < n → RowAt w (A j) (L j) (fun k => .int .u64 (F j k))
theorem Rows3.now {w w' : World} {a1 a2 a3 : Option Addr} {n : Nat} {S : Nat → ByteArray} {U : Nat → Int} {A : Nat → Option Addr} {L C : Nat → Nat} {F : Nat → Nat → Int} (h : Rows3 w a1 a2 a3 n S U A L C F) (hb : Below w.heap.size w w') : Rows3 w' a1 a2 a3 n S U A L C F :=
  ⟨h.s.now hb, h.u.now hb, h.b.now hb, fun j hj => (h.f j hj).now hb⟩

structure CtxOK (n : Nat) (S : Nat → ByteArray) (L : Nat → Nat) (F : Nat → Nat → Int) : Prop where
  hn : n ≤ 16777216
  hl : ∀ j, j < n → L j ≤ 16777216
  hs : ∀ i j, i < j → j < n → slt (S i).toList (S j).toList
  hf : ∀ j, j < n → ∀ i k, i < k → k < L j → F j i < F j k

def HasF (n : Nat) (S : Nat → ByteArray) (U : Nat → Int) (L : Nat → Nat) (F : Nat → Nat → Int) (a : List UInt8) (x : Int) : Prop := ∃ i, i < n ∧ (S i).toList = a ∧ Has1 (U i) (L i) (F i) x

theorem hasF_at {n : Nat} {S : Nat → ByteArray} {U : Nat → Int} {L : Nat → Nat} {F : Nat → Nat → Int} (h : CtxOK n S L F) {i : Nat} (hi : i < n) (x : Int) : HasF n S U L F (S i).toList x ↔ Has1 (U i) (L i) (F i) x := by
  constructor
  · rintro ⟨j, hj, e, k⟩
    by_cases h1 : j = i
    · subst h1; exact k
    · by_cases h2 : j < i
      · have := h.hs j i h2 hi; rw [e] at this; exact absurd this (slt_irrefl _)
      · have := h.hs i j (by omega) hj; rw [e] at this; exact absurd this (slt_irrefl _)
  · intro k; exact ⟨i, hi, rfl, k⟩

theorem Below.step {w w1 w2 : World} (h : Below w.heap.size w w1) (k : Below w1.heap.size w1 w2) : Below w.heap.size w w2 := h.trans (k.mono h.size)
theorem Box3.on {w w1 w2 : World} {x y z : Value} (B : Box3 w w1 x y z) (k : Below w1.heap.size w1 w2) : Box3 w w2 x y z := by
  refine ⟨Below.step B.below k, ?_, ?_, ?_, Nat.lt_of_lt_of_le B.lt k.size⟩
  · rw [k.cell (p := ⟨w.heap.size, 0, none⟩) B.lt]; exact B.c0
  · rw [k.cell (p := ⟨w.heap.size, 1, none⟩) B.lt]; exact B.c1
  · rw [k.cell (p := ⟨w.heap.size, 2, none⟩) B.lt]; exact B.c2
theorem box3' (w : World) (x y z : Value) (t : TypeId) : Box3 w (w.alloc (.cells #[x, y, z] t)) x y z := box3 w x y z t 0

set_option maxHeartbeats 1000000 in
theorem has_f (a1 a2 a3 : Option Addr) (n c1 c2 c3 : Nat) (S : Nat → ByteArray) (U : Nat → Int) (A : Nat → Option Addr) (L C : Nat → Nat) (F : Nat → Nat → Int) (a : ByteArray) (x : Int) (w : World)
    (hG : CtxOK n S L F) (h : Rows3 w a1 a2 a3 n S U A L C F) :
    Calls Try.prog 34 #[.agg #[.slice a1 n c1, .slice a2 n c2, .slice a3 n c3], .string a, .int .u64 x] w (fun e w' => SaysB (HasF n S U L F a.toList x) w w' e) := by
  have HG : Hid (CtxOK n S L F) := hG
  have hn := hG.hn
  clear hG
  go_enter Try.func34, Try.ntmps34
  go_wp2_with fail
  have B := box3' w (.slice a1 n c1) (.slice a2 n c2) (.slice a3 n c3) 30
  generalize (w.alloc (Obj.cells #[Value.slice a1 n c1, Value.slice a2 n c2, Value.slice a3 n c3] 30)) = w1 at *
  have h1 := h.now B.below
  refine (find_any _ _ _ _ _ _ _ _ _ S _ _ hn HG.out.hs h1.s).mono ?_
  rintro e w2 ⟨p, rfl, hp, hb2⟩
  have B2 := B.on hb2
  have h2 := h1.now hb2
  clear B h1 hb2 h
  rcases hp with ⟨i, rfl, hi, hS⟩ | ⟨rfl, hno⟩
  · obtain ⟨hbel, k0, k1, k2, k3⟩ := B2
    obtain ⟨b2, o2, e2, r2⟩ := h2.u
    obtain ⟨b3, o3, e3, r3⟩ := h2.b
    obtain rfl := e2 (by omega)
    obtain rfl := e3 (by omega)
    have q2 := r2 i hi
    have q3 := r3 i hi
    have hF := h2.f i hi
    have hi' : (i : Int) < n := by omega
    have HP : Hid (HasF n S U L F a.toList x ↔ Has1 (U i) (L i) (F i) x) := by unfold Hid; rw [← hS]; exact hasF_at HG.out hi x
    have hL := HG.out.hl i hi
    have hM := HG.out.hf i hi
    clear r2 r3 h2
    go_wp2_with fail
    go_quiet ((go_at_call 28; refine Calls.quiet_of ((runHas_f _ _ _ _ (F i) _ _ hL hM (hF.drewN _)).mono fun _ _ k => k.fix)))
    go_wp2_with fail
    go_ret
    refine ⟨_, rfl, ?_, below_drewN hbel _⟩
    rw [HP.out]; simp
  · have HP : Hid (¬ HasF n S U L F a.toList x) := by
      rintro ⟨i, hi, e, _⟩; exact hno i hi e
    clear hno h2
    go_wp2_with fail
    go_ret
    exact ⟨false, rfl, by simpa using HP.out, B2.below⟩
end Go.Proofs.Qxb6620807a
