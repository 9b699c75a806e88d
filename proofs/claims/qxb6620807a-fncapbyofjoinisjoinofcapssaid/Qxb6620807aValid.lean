import Derived.Test.Qxb6620807aHas
namespace Go.Proofs.Qxb6620807a
open Go.RowKit
set_option linter.unusedVariables false

def lastV (U : Int) (L : Nat) (F : Nat → Int) : Int := if L = 0 then U else F (L - 1)
/-- The highest counter for an actor. -/
def LastF (n : Nat) (S : Nat → ByteArray) (U : Nat → Int) (L : Nat → Nat) (F : Nat → Nat → Int) (a : List UInt8) (v : Int) : Prop :=
  (∃ i, i < n ∧ (S i).toList = a ∧ v = lastV (U i) (L i) (F i)) ∨ ((∀ i, i < n → (S i).toList ≠ a) ∧ v = 0)
def Lasts (n : Nat) (S : Nat → ByteArray) (U : Nat → Int) (L : Nat → Nat) (F : Nat → Nat → Int) (a : List UInt8) (w w' : World) (e : Ending) : Prop :=
  ∃ v, e = .returned (.int .u64 v) ∧ LastF n S U L F a v ∧ Below w.heap.size w w'

set_option maxHeartbeats 1000000 in
theorem last_f (a1 a2 a3 : Option Addr) (n c1 c2 c3 : Nat) (S : Nat → ByteArray) (U : Nat → Int) (A : Nat → Option Addr) (L C : Nat → Nat) (F : Nat → Nat → Int) (a : ByteArray) (w : World)
    (hG : CtxOK n S L F) (h : Rows3 w a1 a2 a3 n S U A L C F) :
    Calls Try.prog 37 #[.agg #[.slice a1 n c1, .slice a2 n c2, .slice a3 n c3], .string a] w (fun e w' => Lasts n S U L F a.toList w w' e) := by
  have HG : Hid (CtxOK n S L F) := hG
  have hn := hG.hn
  clear hG
  go_enter Try.func37, Try.ntmps37
  go_wp2_with fail
  have B := box3' w (.slice a1 n c1) (.slice a2 n c2) (.slice a3 n c3) 30
  generalize (w.alloc (Obj.cells #[Value.slice a1 n c1, Value.slice a2 n c2, Value.slice a3 n c3] 30)) = w1 at *
  have h1 := h.now B.below
  refine (find_any _ _ _ _ _ _ _ _ _ S _ _ hn HG.out.hs h1.s).mono ?_
  rintro e w2 ⟨p, rfl, hp, hb2⟩
  have B2 := B.on hb2
  have h2 := h1.now hb2
  clear B h1 hb2 h
  rcases hp with ⟨i, rfl, hi, hS⟩ | ⟨rfl, hno⟩
  · obtain ⟨hbel, k0, k1, k2, k3⟩ := B2
    obtain ⟨b2, o2, e2, r2⟩ := h2.u
    obtain ⟨b3, o3, e3, r3⟩ := h2.b
    obtain rfl := e2 (by omega)
    obtain rfl := e3 (by omega)
    have q2 := r2 i hi
    have q3 := r3 i hi
    simp only [] at q2 q3
    obtain ⟨b4, o4, e4, r4⟩ := h2.f i hi
    have hL := HG.out.hl i hi
    have HP : Hid (LastF n S U L F a.toList (lastV (U i) (L i) (F i))) := Or.inl ⟨i, hi, hS, rfl⟩
    clear r2 r3 h2
    by_cases hz : L i = 0
    · have HE : Hid (lastV (U i) (L i) (F i) = U i) := by unfold Hid lastV; rw [if_pos hz]
      rw [hz] at q3
      clear r4
      go_wp2_with fail
      go_ret
      exact ⟨_, ret_int HE.out.symm, HP.out, hbel⟩
    · have HE : Hid (lastV (U i) (L i) (F i) = F i (L i - 1)) := by unfold Hid lastV; rw [if_neg hz]
      have q4 := r4 (L i - 1) (by omega)
      simp only [] at q4
      have eA := e4 (by omega)
      rw [eA] at q3
      clear r4 e4 eA
      generalize F i (L i - 1) = v at *
      obtain ⟨m, hm⟩ : ∃ m, L i = m + 1 := ⟨L i - 1, by omega⟩
      rw [hm] at q3 q4 hL
      simp only [Nat.add_sub_cancel] at q4
      clear hz
      go_wp2_with fail
      go_ret
      exact ⟨_, ret_int HE.out.symm, HP.out, hbel⟩
  · have HP : Hid (LastF n S U L F a.toList 0) := Or.inr ⟨hno, rfl⟩
    clear hno h2
    go_wp2_with fail
    go_ret
    exact ⟨0, rfl, HP.out, B2.below⟩

/-- What zzValid asks at place i. -/
def rowOK (S : Nat → ByteArray) (U : Nat → Int) (L : Nat → Nat) (F : Nat → Nat → Int) (i : Nat) : Prop :=
  (0 < i → slt (S (i - 1)).toList (S i).toList) ∧ ¬ (U i = 0 ∧ L i = 0) ∧ ∀ j, j < L i → okAt (U i) (F i) j
def ValidF (n n2 n3 : Nat) (S : Nat → ByteArray) (U : Nat → Int) (L : Nat → Nat) (F : Nat → Nat → Int) : Prop := n2 = n ∧ n3 = n ∧ ∀ i, i < n → rowOK S U L F i

theorem cell_dr {w1 wy : World} {q : Nat} (hy : wy = w1.drewN q) {p : Addr} {v : Value} (h : w1.cell? p = some v) : wy.cell? p = some v := by subst hy; exact h
theorem row_dr {w1 wy : World} {q : Nat} (hy : wy = w1.drewN q) {a : Option Addr} {n : Nat} {f : Nat → Value} (h : RowAt w1 a n f) : RowAt wy a n f := by subst hy; exact h

set_option maxHeartbeats 1600000 in
theorem valid_eq (a1 a2 a3 : Option Addr) (n c1 c2 c3 : Nat) (S : Nat → ByteArray) (U : Nat → Int) (A : Nat → Option Addr) (L C : Nat → Nat) (F : Nat → Nat → Int) (w : World)
    (hn : n ≤ 16777216) (hl : ∀ j, j < n → L j ≤ 16777216) (hU : ∀ j, j < n → In64 (U j)) (hF : ∀ j, j < n → ∀ k, k < L j → In64 (F j k)) (h : Rows3 w a1 a2 a3 n S U A L C F) :
    Calls Try.prog 11 #[.agg #[.slice a1 n c1, .slice a2 n c2, .slice a3 n c3]] w (fun e w' => SaysB (∀ i, i < n → rowOK S U L F i) w w' e) := by
  have HL : Hid (∀ j, j < n → L j ≤ 16777216) := hl
  have HU : Hid (∀ j, j < n → In64 (U j)) := hU
  have HF : Hid (∀ j, j < n → ∀ k, k < L j → In64 (F j k)) := hF
  clear hl hU hF
  go_enter Try.func11, Try.ntmps11
  go_wp2_with fail
  have B := box3' w (.slice a1 n c1) (.slice a2 n c2) (.slice a3 n c3) 30
  generalize (w.alloc (Obj.cells #[Value.slice a1 n c1, Value.slice a2 n c2, Value.slice a3 n c3] 30)) = w1 at *
  have h1 := h.now B.below
  clear h
  obtain ⟨hbel, k0, k1, k2, k3⟩ := B
  go_loopw [3] (fun i wr => ∃ k : Nat, k ≤ n ∧ i = .int .i64 k ∧ (∃ q, wr = w1.drewN q) ∧ Hid (∀ j, j < k → rowOK S U L F j)) (fun i _ => n - (intOf i).toNat)
  case atStart => exact ⟨0, by omega, rfl, ⟨0, rfl⟩, fun j hj => absurd hj (by omega)⟩
  case round =>
    obtain ⟨k, hk, rfl, ⟨q, rfl⟩, HK⟩ := hrel
    by_cases hlt : k < n
    · have HN : Hid (¬ rowOK S U L F k → ¬ ∀ i, i < n → rowOK S U L F i) := fun h1 h2 => h1 (h2 k hlt)
      have HS : Hid (rowOK S U L F k → ∀ j, j < k + 1 → rowOK S U L F j) := fun h1 j hj => by
        by_cases e : j = k
        · subst e; exact h1
        · exact HK.out j (by omega)
      clear HK
      obtain ⟨b1, o1, e1, r1⟩ := h1.s
      obtain ⟨b2, o2, e2, r2⟩ := h1.u
      obtain ⟨b3, o3, e3, r3⟩ := h1.b
      have hf := h1.f k hlt
      obtain rfl := e1 (by omega)
      obtain rfl := e2 (by omega)
      obtain rfl := e3 (by omega)
      have q1 := r1 k hlt
      have q2 := r2 k hlt
      have q3 := r3 k hlt
      have lt' : (k : Int) < n := by omega
      have hLk := HL.out k hlt
      have hUk := HU.out k hlt
      have hFk := HF.out k hlt
      clear r2 r3 h1 HL HU HF e1 e2 e3
      -- the order of the names
      have ord : k = 0 ∨ ∃ k', k = k' + 1 ∧ w1.cell? ⟨b1, o1 + k', none⟩ = some (.string (S k')) := by
        by_cases e : k = 0
        · exact Or.inl e
        · exact Or.inr ⟨k - 1, by omega, r1 (k - 1) (by omega)⟩
      clear r1
      by_cases ho : 0 < k → slt (S (k - 1)).toList (S k).toList
      case neg =>
        have HE := HN.out (fun h => ho h.1)
        have HE : Hid (¬ ∀ i, i < n → rowOK S U L F i) := HE
        rcases ord with rfl | ⟨k', rfl, q0⟩
        · exact absurd (fun h => absurd h (by omega)) ho
        · have hq : Op.bytesLess (S k').toList (S (k' + 1)).toList = false := by
            cases hh : Op.bytesLess (S k').toList (S (k' + 1)).toList with
            | false => rfl
            | true => exact absurd (fun _ => hh) ho
          have t1 : (0 : Int) < (k' : Int) + 1 := by omega
          have t2 : (k' : Int) + 1 < n := by omega
          have t3 : (k' : Int) < n := by omega
          clear HN HS ho hUk hFk hf
          go_wp2_with fail
          go_quiet (fail)
          go_wp2_with fail
          go_ret
          exact ⟨false, rfl, by simpa using HE.out, by first | exact below_drewN hbel _ | exact below_drewN (below_drewN hbel _) _⟩
      rcases ord with e0 | ⟨k', e0, q0⟩
      · subst e0
        simp only [Nat.add_zero] at q1 q2 q3
        by_cases hE : U 0 = 0 ∧ L 0 = 0
        · have HE : Hid (¬ ∀ i, i < n → rowOK S U L F i) := HN.out (fun h => h.2.1 hE)
          obtain ⟨z1, z2⟩ := hE
          rw [z1] at q2
          rw [z2] at q3
          clear HN HS hUk hFk hf hLk z1 z2
          go_wp2_with fail
          go_quiet (fail)
          go_wp2_with fail
          go_ret
          exact ⟨false, rfl, by simpa using HE.out, by first | exact below_drewN hbel _ | exact below_drewN (below_drewN hbel _) _⟩
        · have hE2 : ¬ U 0 = 0 ∨ (U 0 = 0 ∧ ¬ L 0 = 0) := by
            by_cases e : U 0 = 0
            · exact Or.inr ⟨e, fun e2 => hE ⟨e, e2⟩⟩
            · exact Or.inl e
          by_cases hR : ∀ j, j < L 0 → okAt (U 0) (F 0) j
          · have HE : Hid (∀ j, j < 0 + 1 → rowOK S U L F j) := HS.out ⟨ho, hE, hR⟩
            have HR : Hid (∀ j, j < L 0 → okAt (U 0) (F 0) j) := hR
            clear HN HS hE hR ho
            generalize U 0 = u at *
            rcases hE2 with z1 | ⟨rfl, z2⟩
            all_goals
              go_wp2_with fail
              go_quiet (fail)
              go_wp2_with fail
              obtain ⟨wy, hy⟩ : ∃ x, x = w1.drewN (q + nq) := ⟨_, rfl⟩
              rw [← hy]
              replace k1 := cell_dr hy k1
              replace k2 := cell_dr hy k2
              replace q2 := cell_dr hy q2
              replace q3 := cell_dr hy q3
              replace hf := row_dr hy hf
              have HY : Hid (wy = w1.drewN (q + nq)) := hy
              clear hy k0 q1
              go_quiet ((go_at_call 24; refine Calls.quiet_of ((runValid_f _ _ _ _ (F (0)) _ hLk hUk hFk (hf.drewN _)).mono fun _ _ m => m.yes HR.out)))
              go_wp2_with fail
              go_roundw
              case rel => exact ⟨0 + 1, by omega, by go_num, ⟨_, by rw [HY.out]; exact World.drewN_drewN ..⟩, HE⟩
              case measure => simp only [intOf]; omega
          · have HE : Hid (¬ ∀ i, i < n → rowOK S U L F i) := HN.out (fun h => hR h.2.2)
            have HR : Hid (¬ ∀ j, j < L 0 → okAt (U 0) (F 0) j) := hR
            clear HN HS hE hR ho
            generalize U 0 = u at *
            rcases hE2 with z1 | ⟨rfl, z2⟩
            all_goals
              go_wp2_with fail
              go_quiet (fail)
              go_wp2_with fail
              obtain ⟨wy, hy⟩ : ∃ x, x = w1.drewN (q + nq) := ⟨_, rfl⟩
              rw [← hy]
              replace k1 := cell_dr hy k1
              replace k2 := cell_dr hy k2
              replace q2 := cell_dr hy q2
              replace q3 := cell_dr hy q3
              replace hf := row_dr hy hf
              have HY : Hid (wy = w1.drewN (q + nq)) := hy
              clear hy k0 q1
              go_quiet ((go_at_call 24; refine Calls.quiet_of ((runValid_f _ _ _ _ (F (0)) _ hLk hUk hFk (hf.drewN _)).mono fun _ _ m => m.no HR.out)))
              go_wp2_with fail
              go_ret
              exact ⟨false, rfl, by simpa using HE.out, by rw [HY.out]; exact below_drewN (below_drewN hbel _) _⟩
      · subst e0
        simp only [] at q1 q2 q3
        have hq : Op.bytesLess (S k').toList (S (k' + 1)).toList = true := ho (by omega)
        have t1 : (0 : Int) < (k' : Int) + 1 := by omega
        have t2 : (k' : Int) + 1 < n := by omega
        have t3 : (k' : Int) < n := by omega
        by_cases hE : U (k' + 1) = 0 ∧ L (k' + 1) = 0
        · have HE : Hid (¬ ∀ i, i < n → rowOK S U L F i) := HN.out (fun h => h.2.1 hE)
          obtain ⟨z1, z2⟩ := hE
          rw [z1] at q2
          rw [z2] at q3
          clear HN HS hUk hFk hf hLk z1 z2
          go_wp2_with fail
          go_quiet (fail)
          go_wp2_with fail
          go_ret
          exact ⟨false, rfl, by simpa using HE.out, by first | exact below_drewN hbel _ | exact below_drewN (below_drewN hbel _) _⟩
        · have hE2 : ¬ U (k' + 1) = 0 ∨ (U (k' + 1) = 0 ∧ ¬ L (k' + 1) = 0) := by
            by_cases e : U (k' + 1) = 0
            · exact Or.inr ⟨e, fun e2 => hE ⟨e, e2⟩⟩
            · exact Or.inl e
          by_cases hR : ∀ j, j < L (k' + 1) → okAt (U (k' + 1)) (F (k' + 1)) j
          · have HE : Hid (∀ j, j < (k' + 1) + 1 → rowOK S U L F j) := HS.out ⟨ho, hE, hR⟩
            have HR : Hid (∀ j, j < L (k' + 1) → okAt (U (k' + 1)) (F (k' + 1)) j) := hR
            clear HN HS hE hR ho
            generalize U (k' + 1) = u at *
            rcases hE2 with z1 | ⟨rfl, z2⟩
            all_goals
              go_wp2_with fail
              go_quiet (fail)
              go_wp2_with fail
              obtain ⟨wy, hy⟩ : ∃ x, x = w1.drewN (q + nq) := ⟨_, rfl⟩
              rw [← hy]
              replace k1 := cell_dr hy k1
              replace k2 := cell_dr hy k2
              replace q2 := cell_dr hy q2
              replace q3 := cell_dr hy q3
              replace hf := row_dr hy hf
              have HY : Hid (wy = w1.drewN (q + nq)) := hy
              clear hy k0 q1
              go_quiet ((go_at_call 24; refine Calls.quiet_of ((runValid_f _ _ _ _ (F ((k' + 1))) _ hLk hUk hFk (hf.drewN _)).mono fun _ _ m => m.yes HR.out)))
              go_wp2_with fail
              go_roundw
              case rel => exact ⟨(k' + 1) + 1, by omega, by go_num, ⟨_, by rw [HY.out]; exact World.drewN_drewN ..⟩, HE⟩
              case measure => simp only [intOf]; omega
          · have HE : Hid (¬ ∀ i, i < n → rowOK S U L F i) := HN.out (fun h => hR h.2.2)
            have HR : Hid (¬ ∀ j, j < L (k' + 1) → okAt (U (k' + 1)) (F (k' + 1)) j) := hR
            clear HN HS hE hR ho
            generalize U (k' + 1) = u at *
            rcases hE2 with z1 | ⟨rfl, z2⟩
            all_goals
              go_wp2_with fail
              go_quiet (fail)
              go_wp2_with fail
              obtain ⟨wy, hy⟩ : ∃ x, x = w1.drewN (q + nq) := ⟨_, rfl⟩
              rw [← hy]
              replace k1 := cell_dr hy k1
              replace k2 := cell_dr hy k2
              replace q2 := cell_dr hy q2
              replace q3 := cell_dr hy q3
              replace hf := row_dr hy hf
              have HY : Hid (wy = w1.drewN (q + nq)) := hy
              clear hy k0 q1
              go_quiet ((go_at_call 24; refine Calls.quiet_of ((runValid_f _ _ _ _ (F ((k' + 1))) _ hLk hUk hFk (hf.drewN _)).mono fun _ _ m => m.no HR.out)))
              go_wp2_with fail
              go_ret
              exact ⟨false, rfl, by simpa using HE.out, by rw [HY.out]; exact below_drewN (below_drewN hbel _) _⟩
    · obtain rfl : n = k := by omega
      clear h1 HL HU HF
      go_wp2_with fail
      go_ret
      exact ⟨true, rfl, by simpa using HK.out, below_drewN hbel _⟩

set_option maxHeartbeats 2000000 in
theorem valid_f (a1 a2 a3 : Option Addr) (n n2 n3 c1 c2 c3 : Nat) (S : Nat → ByteArray) (U : Nat → Int) (A : Nat → Option Addr) (L C : Nat → Nat) (F : Nat → Nat → Int) (w : World)
    (hn : n ≤ 16777216) (hl : ∀ j, j < n3 → L j ≤ 16777216) (hU : ∀ j, j < n2 → In64 (U j)) (hF : ∀ j, j < n3 → ∀ k, k < L j → In64 (F j k))
    (hs : RowAt w a1 n (fun j => .string (S j))) (hu : RowAt w a2 n2 (fun j => .int .u64 (U j))) (hb : RowAt w a3 n3 (fun j => .slice (A j) (L j) (C j))) (hf : ∀ j, j < n3 → RowAt w (A j) (L j) (fun k => .int .u64 (F j k))) :
    Calls Try.prog 11 #[.agg #[.slice a1 n c1, .slice a2 n2 c2, .slice a3 n3 c3]] w (fun e w' => SaysB (ValidF n n2 n3 S U L F) w w' e) := by
  by_cases h2 : n2 = n
  case neg =>
    have HE : Hid (¬ ValidF n n2 n3 S U L F) := fun h => h2 h.1
    have B := box3' w (.slice a1 n c1) (.slice a2 n2 c2) (.slice a3 n3 c3) 30
    have h2' : ((n2 : Int) == n) = false := by simp; omega
    clear hs hu hb hf hl hU hF h2
    go_enter Try.func11, Try.ntmps11
    go_wp2_with fail
    go_ret
    exact ⟨false, rfl, by simpa using HE.out, B.below⟩
  subst h2
  by_cases h3 : n3 = n2
  case neg =>
    have HE : Hid (¬ ValidF n2 n2 n3 S U L F) := fun h => h3 h.2.1
    have B := box3' w (.slice a1 n2 c1) (.slice a2 n2 c2) (.slice a3 n3 c3) 30
    have h2' : ((n3 : Int) == n2) = false := by simp; omega
    clear hs hu hb hf hl hU hF h3
    go_enter Try.func11, Try.ntmps11
    go_wp2_with fail
    go_ret
    exact ⟨false, rfl, by simpa using HE.out, B.below⟩
  subst h3
  refine (valid_eq _ _ _ _ _ _ _ S U A L C F _ hn hl hU hF ⟨hs, hu, hb, hf⟩).mono fun e w' k => ?_
  obtain ⟨b, rfl, hb, hw⟩ := k
  exact ⟨b, rfl, hb.trans ⟨fun h => ⟨rfl, rfl, h⟩, fun h => h.2.2⟩, hw⟩
end Go.Proofs.Qxb6620807a
