import Derived.Test.Qxb6620807aPlain
import Derived.WalkKit
import Derived.WalkSpells
import Derived.WalkSmall
import Derived.BigQuiet
import Derived.Deep.QuietTactic
import Derived.Laws.Cover1
namespace Go.Proofs.Qxb6620807a
open Go.RowKit
set_option linter.unusedVariables false

theorem ret_bool {a b : Bool} (h : a = b) : Ending.returned (.bool a) = .returned (.bool b) := by rw [h]
theorem ret_int {k : IntKind} {a b : Int} (h : a = b) : Ending.returned (.int k a) = .returned (.int k b) := by rw [h]

/-- A row of n one-cell elements behind a slice's address. -/
def RowAt (w : World) (a : Option Addr) (n : Nat) (f : Nat → Value) : Prop :=
  ∃ b off, (0 < n → a = some ⟨b, off, none⟩) ∧ ∀ j, j < n → w.cell? ⟨b, off + j, none⟩ = some (f j)
theorem RowAt.below {w w' : World} {a : Option Addr} {n : Nat} {f : Nat → Value} (h : RowAt w a n f) {B : Nat} (hB : w.heap.size ≤ B) (hb : Below B w w') : RowAt w' a n f := by
  obtain ⟨b, off, ha, hc⟩ := h
  refine ⟨b, off, ha, fun j hj => ?_⟩
  rw [← hc j hj]
  exact hb.cell (Nat.lt_of_lt_of_le (World.block_lt_of_cell? _ _ (hc j hj)) hB)
theorem RowAt.nil (w : World) (a : Option Addr) (f : Nat → Value) : RowAt w a 0 f := ⟨0, 0, fun h => absurd h (by omega), fun j hj => absurd hj (by omega)⟩

/-- It hands back a bool that says p; the world has drawn. -/
def Says (p : Prop) (w w' : World) (e : Ending) : Prop := ∃ b : Bool, e = .returned (.bool b) ∧ (b = true ↔ p) ∧ ∃ q, w' = w.drewN q
/-- .. the world keeps what was there. -/
def SaysB (p : Prop) (w w' : World) (e : Ending) : Prop := ∃ b : Bool, e = .returned (.bool b) ∧ (b = true ↔ p) ∧ Below w.heap.size w w'

/-- A row of uint64. -/
def IntsAt (w : World) (a : Option Addr) (ab : List Int) : Prop := RowAt w a ab.length (fun j => .int .u64 (ab.getD j 0))
def In64 (x : Int) : Prop := 0 ≤ x ∧ x ≤ 18446744073709551615

/-- What zzRunValid asks at place j. -/
def okAt (u : Int) (f : Nat → Int) (j : Nat) : Prop := if j = 0 then u + 2 ≤ f 0 else f (j - 1) < f j
def ix (ab : List Int) : Nat → Int := fun j => ab.getD j 0

theorem getD_mem {ab : List Int} {j : Nat} (h : j < ab.length) : ix ab j ∈ ab := by
  unfold ix; rw [List.getD_eq_getElem?_getD, List.getElem?_eq_getElem h]; exact List.getElem_mem _
theorem mem_getD {ab : List Int} {x : Int} (h : x ∈ ab) : ∃ j, j < ab.length ∧ ix ab j = x := by
  obtain ⟨j, hj, e⟩ := List.getElem_of_mem h
  exact ⟨j, hj, by unfold ix; rw [List.getD_eq_getElem?_getD, List.getElem?_eq_getElem hj]; exact e⟩
theorem getD_get {ab : List Int} {j : Nat} (h : j < ab.length) : ix ab j = ab[j] := by
  unfold ix; rw [List.getD_eq_getElem?_getD, List.getElem?_eq_getElem h]; rfl
theorem asc_iff {ab : List Int} : Asc ab ↔ ∀ i j, i < j → j < ab.length → ix ab i < ix ab j := by
  unfold Asc
  rw [List.pairwise_iff_getElem]
  constructor
  · intro h i j hij hj
    rw [getD_get (by omega), getD_get hj]; exact h i j (by omega) hj hij
  · intro h i j hi hj hij
    rw [← getD_get hi, ← getD_get hj]; exact h i j hij hj

theorem runOK_iff {u : Int} {ab : List Int} (hu : In64 u) (hab : ∀ x ∈ ab, In64 x) : RunOK u ab ↔ ∀ j, j < ab.length → okAt u (ix ab) j := by
  constructor
  · intro h j hj
    unfold okAt
    split
    · rename_i e; subst e; exact h.lo _ (getD_mem hj)
    · exact asc_iff.1 h.asc (j - 1) j (by omega) hj
  · intro h
    have h1 : ∀ d i, i + (d + 1) < ab.length → ix ab i < ix ab (i + (d + 1)) := by
      intro d
      induction d with
      | zero =>
        intro i hi
        have := h (i + 1) hi
        unfold okAt at this
        rw [if_neg (by omega)] at this
        simpa using this
      | succ d ih =>
        intro i hi
        have k1 := ih i (by omega)
        have k2 := h (i + (d + 1 + 1)) hi
        unfold okAt at k2
        rw [if_neg (by omega), show i + (d + 1 + 1) - 1 = i + (d + 1) from by omega] at k2
        omega
    have hasc : Asc ab := asc_iff.2 fun i j hij hj => by
      have := h1 (j - i - 1) i (by omega)
      rwa [show i + (j - i - 1 + 1) = j from by omega] at this
    refine ⟨hu.1, hu.2, hasc, fun x hx => ?_, fun x hx => (hab x hx).2⟩
    obtain ⟨j, hj, rfl⟩ := mem_getD hx
    have h0 := h 0 (by omega)
    unfold okAt at h0
    rw [if_pos rfl] at h0
    by_cases e : j = 0
    · subst e; exact h0
    · have := asc_iff.1 hasc 0 j (by omega) hj; omega

set_option maxHeartbeats 400000 in
theorem runValid_f (u : Int) (a : Option Addr) (n cap : Nat) (f : Nat → Int) (w : World) (hn : n ≤ 16777216) (hu : In64 u) (hf : ∀ j, j < n → In64 (f j)) (h : RowAt w a n (fun j => .int .u64 (f j))) :
    Calls Try.prog 24 #[.int .u64 u, .slice a n cap] w (fun e w' => Says (∀ j, j < n → okAt u f j) w w' e) := by
  obtain ⟨b, off, ha, hc⟩ := h
  obtain ⟨hu1, hu2⟩ := hu
  go_enter Try.func24, Try.ntmps24
  go_wp2
  go_loopw [5] (fun i wr => ∃ k : Nat, k ≤ n ∧ i = .int .i64 k ∧ (∃ q, wr = w.drewN q) ∧ Hid (∀ j, j < k → okAt u f j)) (fun i _ => n - (intOf i).toNat)
  case atStart => exact ⟨0, by omega, rfl, ⟨0, rfl⟩, fun j hj => absurd hj (by omega)⟩
  case round =>
    obtain ⟨k, hk, rfl, ⟨q, rfl⟩, HK⟩ := hrel
    by_cases hlt : k < n
    · obtain rfl := ha (by omega)
      have g1 := hf k hlt
      have HF : Hid (¬ okAt u f k → ¬ ∀ j, j < n → okAt u f j) := fun h1 h2 => h1 (h2 k hlt)
      have HN : Hid (okAt u f k → ∀ j, j < k + 1 → okAt u f j) := fun h1 j hj => by
        by_cases e : j = k
        · subst e; exact h1
        · exact HK.out j (by omega)
      by_cases hz : k = 0
      · subst hz
        have c1 : w.cell? ⟨b, off, none⟩ = some (.int .u64 (f 0)) := by simpa using hc 0 hlt
        have HO : Hid (okAt u f 0 ↔ u + 2 ≤ f 0) := by unfold Hid okAt; rw [if_pos rfl]
        obtain ⟨g1, g2⟩ := g1
        generalize f 0 = x at *
        by_cases h1 : x ≤ u
        · have HE : Hid (¬ ∀ j, j < n → okAt u f j) := HF.out (by rw [HO.out]; omega)
          clear hc HF HN HO HK hf
          go_wp2
          go_ret
          exact ⟨false, rfl, by simpa using HE.out, q, rfl⟩
        · by_cases h2 : x - u < 2
          · have HE : Hid (¬ ∀ j, j < n → okAt u f j) := HF.out (by rw [HO.out]; omega)
            clear hc HF HN HO HK hf
            go_wp2
            go_ret
            exact ⟨false, rfl, by simpa using HE.out, q, rfl⟩
          · have HE : Hid (∀ j, j < 0 + 1 → okAt u f j) := HN.out (by rw [HO.out]; omega)
            clear hc HF HN HO HK hf
            go_wp2
            go_roundw
            case rel => exact ⟨0 + 1, by omega, by go_num, ⟨q, rfl⟩, HE⟩
            case measure => simp only [intOf]; omega
      · obtain ⟨k', hk'⟩ : ∃ k', k = k' + 1 := ⟨k - 1, by omega⟩
        have HO : Hid (okAt u f k ↔ f k' < f k) := by unfold Hid okAt; rw [if_neg hz, hk']; simp
        subst hk'
        have c1 := hc (k' + 1) hlt
        have c0 := hc k' (by omega)
        obtain ⟨g1, g2⟩ := g1
        generalize f (k' + 1) = x at *
        generalize f k' = y at *
        have b1 : (k' : Int) + 1 < n := by omega
        have b0 : (k' : Int) < n := by omega
        by_cases h1 : x ≤ y
        · have HE : Hid (¬ ∀ j, j < n → okAt u f j) := HF.out (by rw [HO.out]; omega)
          clear hc HF HN HO HK hf
          go_wp2_with fail
          go_quiet (fail)
          go_wp2_with fail
          go_ret
          exact ⟨false, rfl, by simpa using HE.out, _, World.drewN_drewN ..⟩
        · have HE : Hid (∀ j, j < k' + 1 + 1 → okAt u f j) := HN.out (by rw [HO.out]; omega)
          clear hc HF HN HO HK hf
          go_wp2_with fail
          go_quiet (fail)
          go_wp2_with fail
          go_roundw
          case rel => exact ⟨k' + 1 + 1, by omega, by go_num, ⟨_, rfl⟩, HE⟩
          case measure => simp only [intOf]; omega
    · obtain rfl : n = k := by omega
      clear hc hf
      go_wp2
      go_ret
      exact ⟨true, rfl, by simpa using HK.out, q, rfl⟩

theorem Says.congr {p p' : Prop} {w w' : World} {e : Ending} (h : p ↔ p') (k : Says p w w' e) : Says p' w w' e := by
  obtain ⟨b, h1, h2, h3⟩ := k; exact ⟨b, h1, h2.trans h, h3⟩

theorem runValid_any (u : Int) (a : Option Addr) (cap : Nat) (ab : List Int) (w : World) (hn : ab.length ≤ 16777216) (hu : In64 u) (hab : ∀ x ∈ ab, In64 x) (h : IntsAt w a ab) :
    Calls Try.prog 24 #[.int .u64 u, .slice a ab.length cap] w (fun e w' => Says (RunOK u ab) w w' e) :=
  (runValid_f u a ab.length cap (ix ab) w hn hu (fun j hj => hab _ (getD_mem hj)) h).mono fun _ _ k => k.congr (runOK_iff hu hab).symm

/-- A half-way search ends where the elements below x end. -/
def Split (n : Nat) (lt : Nat → Prop) (l h : Nat) : Prop := (∀ j, j < l → lt j) ∧ ∀ j, h ≤ j → j < n → ¬ lt j

theorem split_has {ab : List Int} {x : Int} (hs : Asc ab) {p : Nat} (h : Split ab.length (fun j => ix ab j < x) p p) : x ∈ ab ↔ p < ab.length ∧ ix ab p = x := by
  constructor
  · intro hx
    obtain ⟨j, hj, e⟩ := mem_getD hx
    have h1 : ¬ j < p := fun hh => by have := h.1 j hh; omega
    have h2 := h.2 p (Nat.le_refl _) (by omega)
    by_cases e2 : p = j
    · subst e2; exact ⟨hj, e⟩
    · have := asc_iff.1 hs p j (by omega) hj; omega
  · rintro ⟨h1, h2⟩; rw [← h2]; exact getD_mem h1

theorem split_up {n l m : Nat} {h : Nat} {lt : Nat → Prop} (hs : Split n lt l h) (mono : ∀ i j, i < j → j < n → lt j → lt i) (hm : m < n) (hlt : lt m) : Split n lt (m + 1) h :=
  ⟨fun j hj => by
    by_cases e : j = m
    · subst e; exact hlt
    · exact mono j m (by omega) hm hlt, hs.2⟩
theorem split_down {n l m : Nat} {h : Nat} {lt : Nat → Prop} (hs : Split n lt l h) (mono : ∀ i j, i < j → j < n → lt j → lt i) (hlt : ¬ lt m) : Split n lt l m :=
  ⟨hs.1, fun j h1 h2 k => by
    by_cases e : j = m
    · subst e; exact hlt k
    · exact hlt (mono m j (by omega) h2 k)⟩

/-- A half-way search's answer over a row. -/
def AtSplit (n : Nat) (f : Nat → Int) (x : Int) (p : Nat) : Prop := Split n (fun j => f j < x) p p
theorem atSplit_at {n : Nat} {f : Nat → Int} {x : Int} {p : Nat} (mono : ∀ i j, i < j → j < n → f i < f j) (h : AtSplit n f x p) : (∃ j, j < n ∧ f j = x) ↔ p < n ∧ f p = x := by
  constructor
  · rintro ⟨j, hj, e⟩
    have h1 : ¬ j < p := fun hh => by have := h.1 j hh; omega
    have h2 := h.2 p (Nat.le_refl _) (by omega)
    by_cases e2 : p = j
    · subst e2; exact ⟨hj, e⟩
    · have := mono p j (by omega) hj; omega
  · rintro ⟨h1, h2⟩; exact ⟨p, h1, h2⟩

def Has1 (u : Int) (n : Nat) (f : Nat → Int) (x : Int) : Prop := (1 ≤ x ∧ x ≤ u) ∨ ∃ j, j < n ∧ f j = x

set_option maxHeartbeats 1000000 in
theorem runHas_f (u : Int) (a : Option Addr) (n cap : Nat) (f : Nat → Int) (x : Int) (w : World) (hn : n ≤ 16777216) (mono : ∀ i j, i < j → j < n → f i < f j) (h : RowAt w a n (fun j => .int .u64 (f j))) :
    Calls Try.prog 28 #[.int .u64 u, .slice a n cap, .int .u64 x] w (fun e w' => Says (Has1 u n f x) w w' e) := by
  obtain ⟨b, off, ha, hc⟩ := h
  have HM : Hid (∀ i j, i < j → j < n → f j < x → f i < x) := fun i j h1 h2 h3 => by have := mono i j h1 h2; omega
  have HA : Hid (∀ p, AtSplit n f x p → ((∃ j, j < n ∧ f j = x) ↔ p < n ∧ f p = x)) := fun p => atSplit_at mono
  clear mono
  have hcase : (1 ≤ x ∧ x ≤ u) ∨ x < 1 ∨ (1 ≤ x ∧ u < x) := by omega
  rcases hcase with ⟨h1, h2⟩ | hcase
  · have HE : Hid (Has1 u n f x) := Or.inl ⟨h1, h2⟩
    clear hc
    go_enter Try.func28, Try.ntmps28
    go_wp2
    go_ret
    exact ⟨true, rfl, by simpa using HE.out, 0, rfl⟩
  · have HE : Hid (Has1 u n f x ↔ ∃ j, j < n ∧ f j = x) := by
      constructor
      · rintro (h | h)
        · omega
        · exact h
      · exact Or.inr
    rcases hcase with h1 | ⟨h1, h2⟩
    all_goals
      go_enter Try.func28, Try.ntmps28
      go_wp2
      go_loop [7, 8] (fun lo hi => ∃ l h : Nat, l ≤ h ∧ h ≤ n ∧ lo = .int .i64 l ∧ hi = .int .i64 h ∧ Hid (Split n (fun j => f j < x) l h)) (fun lo hi => (intOf hi).toNat - (intOf lo).toNat)
      case atStart => exact ⟨0, n, by omega, by omega, rfl, rfl, ⟨fun j hj => absurd hj (by omega), fun j h1 h2 => absurd h2 (by omega)⟩⟩
      case round =>
        obtain ⟨l, h, hlh, hh, rfl, rfl, HX⟩ := hrel
        by_cases hlt : l < h
        · obtain rfl := ha (by omega)
          have c1 := hc (l + (h - l) / 2) (by omega)
          clear hc
          go_wp2
          · have hq : f (l + (h - l) / 2) < x := by assumption
            go_round
            case rel => exact ⟨l + (h - l) / 2 + 1, h, by omega, hh, by go_num, rfl, split_up HX.out HM.out (by omega) hq⟩
            case measure => simp only [intOf]; omega
          · have hq : ¬ f (l + (h - l) / 2) < x := by
              have : x ≤ f (l + (h - l) / 2) := by assumption
              omega
            go_round
            case rel => exact ⟨l, l + (h - l) / 2, by omega, by omega, rfl, by go_num, split_down HX.out HM.out hq⟩
            case measure => simp only [intOf]; omega
        · obtain rfl : l = h := by omega
          have HP := HA.out l HX.out
          have HP : Hid (Has1 u n f x ↔ l < n ∧ f l = x) := HE.out.trans HP
          by_cases hl : l < n
          · obtain rfl := ha (by omega)
            have c1 := hc l hl
            clear hc
            go_wp2_with fail
            go_ret
            refine ⟨_, rfl, ?_, 0, rfl⟩
            rw [HP.out]; simp [hl]
          · clear hc
            go_wp2_with fail
            go_ret
            refine ⟨_, rfl, ?_, 0, rfl⟩
            rw [HP.out]; simp [hl]

theorem has1_iff {u : Int} {ab : List Int} {x : Int} : Has1 u ab.length (ix ab) x ↔ inR u ab x := by
  unfold Has1 inR
  constructor
  · rintro (h | ⟨j, hj, e⟩)
    · exact Or.inl h
    · exact Or.inr (e ▸ getD_mem hj)
  · rintro (h | h)
    · exact Or.inl h
    · exact Or.inr (mem_getD h)
theorem runHas_any (u : Int) (a : Option Addr) (cap : Nat) (ab : List Int) (x : Int) (w : World) (hn : ab.length ≤ 16777216) (hs : Asc ab) (h : IntsAt w a ab) :
    Calls Try.prog 28 #[.int .u64 u, .slice a ab.length cap, .int .u64 x] w (fun e w' => Says (inR u ab x) w w' e) :=
  (runHas_f u a ab.length cap (ix ab) x w hn (asc_iff.1 hs) h).mono fun _ _ k => k.congr has1_iff

theorem isNaN_any (x : Int) (w : World) : Calls Try.prog 45 #[.int .u64 x] w fun e w' => e = .returned (.bool false) ∧ w' = w := by
  go_enter Try.func45, Try.ntmps45
  go_wp2
  go_ret
  exact ⟨ret_bool (by simp), rfl⟩
theorem isNaN2_any (x : Int) (w : World) : Calls Try.prog 44 #[.int .u64 x] w fun e w' => e = .returned (.bool false) ∧ w' = w := by
  go_enter Try.func44, Try.ntmps44
  go_wp2
  go_ret
  exact ⟨ret_bool (by simp), rfl⟩
theorem less_any (x y : Int) (w : World) : Calls Try.prog 43 #[.int .u64 x, .int .u64 y] w fun e w' => e = .returned (.bool (decide (x < y))) ∧ w' = w := by
  go_enter Try.func43, Try.ntmps43
  go_wp2_with (go_at_call 45; refine (isNaN_any _ _).mono ?_; rintro e w' ⟨rfl, rfl⟩)
  go_ret
  exact ⟨rfl, rfl⟩

/-- The half-way search hands back the place where the elements below x end. -/
def Found (n : Nat) (f : Nat → Int) (x : Int) (w w' : World) (e : Ending) : Prop := ∃ (p : Nat) (b : Bool), e = .returned (.tuple #[.int .i64 p, .bool b]) ∧ p ≤ n ∧ AtSplit n f x p ∧ w' = w

set_option maxHeartbeats 1000000 in
theorem search_any (a : Option Addr) (n cap : Nat) (f : Nat → Int) (x : Int) (w : World) (hn : n ≤ 16777216) (mono : ∀ i j, i < j → j < n → f i < f j) (h : RowAt w a n (fun j => .int .u64 (f j))) :
    Calls Try.prog 41 #[.slice a n cap, .int .u64 x] w (fun e w' => Found n f x w w' e) := by
  obtain ⟨b, off, ha, hc⟩ := h
  have HM : Hid (∀ i j, i < j → j < n → f j < x → f i < x) := fun i j h1 h2 h3 => by have := mono i j h1 h2; omega
  clear mono
  go_enter Try.func41, Try.ntmps41
  go_wp2
  go_loop [7, 8] (fun lo hi => ∃ l h : Nat, l ≤ h ∧ h ≤ n ∧ lo = .int .i64 l ∧ hi = .int .i64 h ∧ Hid (Split n (fun j => f j < x) l h)) (fun lo hi => (intOf hi).toNat - (intOf lo).toNat)
  case atStart => exact ⟨0, n, by omega, by omega, rfl, rfl, ⟨fun j hj => absurd hj (by omega), fun j h1 h2 => absurd h2 (by omega)⟩⟩
  case round =>
    obtain ⟨l, h, hlh, hh, rfl, rfl, HX⟩ := hrel
    by_cases hlt : l < h
    · obtain rfl := ha (by omega)
      have c1 := hc ((l + h) / 2) (by omega)
      clear hc
      by_cases hq : f ((l + h) / 2) < x
      · go_wp2_with (go_at_call 43; refine (less_any _ _ _).mono ?_; rintro e w' ⟨rfl, rfl⟩; rw [decide_eq_true hq])
        go_round
        case rel => exact ⟨(l + h) / 2 + 1, h, by omega, hh, by go_num, rfl, split_up HX.out HM.out (by omega) hq⟩
        case measure => simp only [intOf]; omega
      · go_wp2_with (go_at_call 43; refine (less_any _ _ _).mono ?_; rintro e w' ⟨rfl, rfl⟩; rw [decide_eq_false hq])
        go_round
        case rel => exact ⟨l, (l + h) / 2, by omega, by omega, rfl, by go_num, split_down HX.out HM.out (by omega)⟩
        case measure => simp only [intOf]; omega
    · obtain rfl : l = h := by omega
      by_cases hl : l < n
      · obtain rfl := ha (by omega)
        have c1 := hc l hl
        clear hc
        by_cases hq : f l = x
        · go_wp2_with fail
          go_ret2
          exact ⟨l, _, rfl, hh, HX.out, rfl⟩
        · have hq' : (f l == x) = false := by simp [hq]
          go_wp2_with (go_at_call 44; refine (isNaN2_any _ _).mono ?_; rintro e w' ⟨rfl, rfl⟩)
          go_ret2
          exact ⟨l, _, rfl, hh, HX.out, rfl⟩
      · clear hc
        go_wp2_with fail
        go_ret2
        exact ⟨l, _, rfl, hh, HX.out, rfl⟩
end Go.Proofs.Qxb6620807a
