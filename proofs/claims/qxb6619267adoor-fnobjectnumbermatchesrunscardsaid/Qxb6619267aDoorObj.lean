import Derived.Test.Qxb6619267aDoorRuns
import Derived.Test.Qxb6619267aDoorShelf
import Derived.Test.Qxb6619267aDoorNum
import Derived.Lib.AtoiErrMem
namespace Go.Proofs.Qxb6619267aDoor
open Go.RowKit
set_option linter.unusedVariables false

/-- Back over white bytes, then back over digits; at least one of each. -/
def nxt (f : Nat → Int) (i : Nat) : Option (Nat × Nat) :=
  let a := bk (fun x => isWh (f x)) i
  let b := bk (fun x => isDg (f x)) a
  if a = i then none else if b = a then none else some (b, a)
def st (f : Nat → Int) (m : Nat) : Nat → Option (Nat × Nat)
  | 0 => some (m, m)
  | k + 1 => (st f m k).bind fun p => nxt f p.1
def reg (c : Int) : Bool := !isWh c && !isDl c
def objB (f : Nat → Int) (m : Nat) : Option (Nat × Nat) :=
  (st f m 2).bind fun p => if 0 < p.1 ∧ reg (f (p.1 - 1)) = true then none else some p

theorem st_none (f : Nat → Int) (m k : Nat) (hk : k < 2) (i y : Nat) (h : st f m k = some (i, y)) (hn : nxt f i = none) : outB f (objB f m) = (0, false) := by
  have h1 : st f m (k + 1) = none := by rw [st, h]; exact hn
  have h2 : st f m 2 = none := by
    by_cases e : k = 1
    · subst e; exact h1
    · obtain rfl : k = 0 := by omega
      rw [st, h1]; rfl
  unfold objB
  rw [h2]; rfl

def Got (f : Nat → Int) (m k : Nat) (b off cap i y : Nat) (nm : Value) : Prop :=
  st f m k = some (i, y) ∧ (0 < k → i < y ∧ (∀ j, i ≤ j → j < y → isDg (f j) = true) ∧ nm = .slice (some ⟨b, off + i, none⟩) (y - i) (cap - i))

set_option maxRecDepth 100000 in
set_option maxHeartbeats 1000000 in
theorem object_any (a : Option Addr) (n cap : Nat) (at_ : Int) (f : Nat → Int) (w : World) (hn : n ≤ 65536) (hcap : n ≤ cap) (hcap2 : cap ≤ 9223372036854775807) (hat : at_ ≤ n) (hb : ∀ j, j < n → 0 ≤ f j ∧ f j ≤ 255) (h : RowAt w a n (fun j => .int .u8 (f j))) (te : TypeId) (pe : Value) (hv : w.cell? ⟨1, 0, none⟩ = some (.iface te pe)) :
    Calls Tryd.prog 14 #[.slice a n cap, .int .i64 at_] w fun e w' => e = .returned (.tuple #[.int .i64 (outB f (objB f at_.toNat)).1, .bool (outB f (objB f at_.toNat)).2]) ∧ Below w.heap.size w w' := by
  obtain ⟨b, off, ha, hc⟩ := h
  by_cases h0 : at_ ≤ 0
  · have HE : Hid (outB f (objB f at_.toNat) = (0, false)) := by
      have e : at_.toNat = 0 := by omega
      rw [e]; simp [Hid, objB, outB, st, nxt, bk]
    clear hc hb ha
    go_enter Tryd.func14, Tryd.ntmps14
    go_wp2
    go_loop [6, 7, 8, 12] (fun vi nm ve vc => vi = .int .i64 at_ ∧ vc = .int .i64 0) (fun _ _ _ _ => 0)
    case atStart => exact ⟨rfl, rfl⟩
    case round =>
      obtain ⟨rfl, rfl⟩ := hrel
      go_wp2
      go_loop [6] (fun vi => vi = .int .i64 at_) (fun _ => 0)
      case atStart => rfl
      case round =>
        subst hrel
        go_wp2
        go_ret2
        exact ⟨ret_pair (by rw [HE.out]) (by rw [HE.out]), Below.refl _ _⟩
  obtain ⟨m, rfl⟩ := Int.eq_ofNat_of_zero_le (show 0 ≤ at_ by omega)
  simp only [Int.toNat_natCast]
  obtain rfl := ha (by omega)
  go_enter Tryd.func14, Tryd.ntmps14
  go_wp2
  go_loop [6, 7, 8, 12] (fun vi nm ve vc => ∃ (k i y : Nat), k ≤ 2 ∧ i ≤ y ∧ y ≤ m ∧ vc = .int .i64 k ∧ vi = .int .i64 i ∧ Hid (Got f m k b off cap i y nm)) (fun _ _ _ vc => 2 - (intOf vc).toNat)
  case atStart => exact ⟨0, m, m, by omega, by omega, by omega, rfl, rfl, ⟨rfl, fun h => absurd h (by omega)⟩⟩
  case round =>
    obtain ⟨k, i, y, hk, hi, hy, rfl, rfl, HG⟩ := hrel
    by_cases hlt : k < 2
    · go_wp2
      go_loop [6] (fun vi => ∃ (j : Nat), j ≤ i ∧ vi = .int .i64 j ∧ Hid (bk (fun x => isWh (f x)) i = bk (fun x => isWh (f x)) j)) (fun vi => (intOf vi).toNat)
      case atStart => exact ⟨i, by omega, rfl, rfl⟩
      case round =>
        obtain ⟨j, hj, rfl, HJ⟩ := hrel
        have hcase : (0 < j ∧ isWh (f (j - 1)) = true) ∨ (j = 0 ∨ isWh (f (j - 1)) = false) := by
          by_cases h1 : 0 < j
          · cases h2 : isWh (f (j - 1)) with
            | true => exact Or.inl ⟨h1, rfl⟩
            | false => exact Or.inr (Or.inr rfl)
          · exact Or.inr (Or.inl (by omega))
        rcases hcase with ⟨h1, h2⟩ | hstop
        · obtain ⟨j, rfl⟩ : ∃ j', j = j' + 1 := ⟨j - 1, by omega⟩
          simp only [Nat.add_sub_cancel] at h2
          have c1 := hc j (by omega)
          have b1 := hb j (by omega)
          have HJ' : Hid (bk (fun x => isWh (f x)) i = bk (fun x => isWh (f x)) j) := by
            unfold Hid; rw [HJ.out]; exact bk_step h2
          clear hc hb HG HJ
          go_wp2_with (go_at_call 15; refine (space_any _ _ b1.1 b1.2).mono ?_; rintro e w' ⟨rfl, rfl⟩)
          go_round
          case rel => exact ⟨j, by omega, by go_num, HJ'⟩
          case measure => simp only [intOf]; omega
        · have HA : Hid (bk (fun x => isWh (f x)) i = j) := by
            unfold Hid; rw [HJ.out]; exact bk_self hstop
          by_cases hji : j = i
          · have HE : Hid (outB f (objB f m) = (0, false)) := st_none f m k hlt i y HG.out.1 (by unfold nxt; simp only [HA.out, hji, if_pos])
            subst hji
            rcases hstop with rfl | hw
            · clear hc hb HG HJ HA
              go_wp2_with fail
              go_ret2
              exact ⟨ret_pair (by rw [HE.out]) (by rw [HE.out]), Below.refl _ _⟩
            · by_cases hz : j = 0
              · subst hz
                clear hc hb HG HJ HA
                go_wp2_with fail
                go_ret2
                exact ⟨ret_pair (by rw [HE.out]) (by rw [HE.out]), Below.refl _ _⟩
              · obtain ⟨j, rfl⟩ : ∃ j', j = j' + 1 := ⟨j - 1, by omega⟩
                simp only [Nat.add_sub_cancel] at hw
                have c1 := hc j (by omega)
                have b1 := hb j (by omega)
                clear hc hb HG HJ HA
                go_wp2_with (go_at_call 15; refine (space_any _ _ b1.1 b1.2).mono ?_; rintro e w' ⟨rfl, rfl⟩)
                go_ret2
                exact ⟨ret_pair (by rw [HE.out]) (by rw [HE.out]), Below.refl _ _⟩
          · have hN : Hid (∀ l, bk (fun x => isDg (f x)) j = l → nxt f i = if l = j then none else some (l, j)) := by
              intro l hl; unfold nxt; simp only [HA.out, hl, if_neg hji]
            by_cases hz : j = 0
            · subst hz
              have HE : Hid (outB f (objB f m) = (0, false)) := st_none f m k hlt i y HG.out.1 (by rw [hN.out 0 rfl, if_pos rfl])
              clear hc hb HG HJ HA hN hstop
              go_wp2_with fail
              go_loop [6] (fun vi => vi = .int .i64 0) (fun vi => 0)
              case atStart => rfl
              case round =>
                subst hrel
                go_wp2_with fail
                go_ret2
                exact ⟨ret_pair (by rw [HE.out]) (by rw [HE.out]), Below.refl _ _⟩
            · obtain ⟨j', hj'⟩ : ∃ j', j = j' + 1 := ⟨j - 1, by omega⟩
              have hw : isWh (f j') = false := by
                rcases hstop with h | h
                · omega
                · rw [hj'] at h; simpa using h
              have c1 := hc j' (by omega)
              have b1 := hb j' (by omega)
              have HD : Hid (∀ l, l ≤ j → l < j → w.cell? ⟨b, off + l, none⟩ = some (.int .u8 (f l)) ∧ 0 ≤ f l ∧ f l ≤ 255) := fun l _ hl => ⟨hc l (by omega), hb l (by omega)⟩
              clear hc hb HJ HA hstop
              subst hj'
              go_wp2_with (go_at_call 15; refine (space_any _ _ b1.1 b1.2).mono ?_; rintro e w' ⟨rfl, rfl⟩)
              clear c1 b1 hw
              go_loop [6] (fun vi => ∃ (l : Nat), l ≤ j' + 1 ∧ vi = .int .i64 l ∧ Hid (bk (fun x => isDg (f x)) (j' + 1) = bk (fun x => isDg (f x)) l)) (fun vi => (intOf vi).toNat)
              case atStart => exact ⟨j' + 1, by omega, rfl, rfl⟩
              case round =>
                obtain ⟨l, hl, rfl, HL⟩ := hrel
                have hcase : (0 < l ∧ isDg (f (l - 1)) = true) ∨ (l = 0 ∨ (0 < l ∧ f (l - 1) < 48) ∨ (0 < l ∧ 57 < f (l - 1))) := by
                  by_cases h1 : 0 < l
                  · by_cases h2 : f (l - 1) < 48
                    · exact Or.inr (Or.inr (Or.inl ⟨h1, h2⟩))
                    · by_cases h3 : 57 < f (l - 1)
                      · exact Or.inr (Or.inr (Or.inr ⟨h1, h3⟩))
                      · exact Or.inl ⟨h1, by simp [isDg]; omega⟩
                  · exact Or.inr (Or.inl (by omega))
                rcases hcase with ⟨h1, h2⟩ | hstop
                · obtain ⟨l, rfl⟩ : ∃ l', l = l' + 1 := ⟨l - 1, by omega⟩
                  simp only [Nat.add_sub_cancel] at h2
                  obtain ⟨c1, b1⟩ := HD.out l (by omega) (by omega)
                  have HL' : Hid (bk (fun x => isDg (f x)) (j' + 1) = bk (fun x => isDg (f x)) l) := by
                    unfold Hid; rw [HL.out]; exact bk_step h2
                  have d1 : 48 ≤ f l ∧ f l ≤ 57 := by simpa [isDg] using h2
                  clear HG hN HD HL h2
                  go_wp2_with fail
                  go_round
                  case rel => exact ⟨l, by omega, by go_num, HL'⟩
                  case measure => simp only [intOf]; omega
                · have HB : bk (fun x => isDg (f x)) (j' + 1) = l := by
                    rw [HL.out]; apply bk_self
                    rcases hstop with h | ⟨h, h'⟩ | ⟨h, h'⟩
                    · exact Or.inl h
                    · right; simp [isDg]; omega
                    · right; simp [isDg]; omega
                  by_cases hlj : l = j' + 1
                  · have HE : Hid (outB f (objB f m) = (0, false)) := st_none f m k hlt i y HG.out.1 (by rw [hN.out l HB, if_pos hlj])
                    subst hlj
                    obtain ⟨c1, b1⟩ := HD.out j' (by omega) (by omega)
                    simp only [Nat.add_sub_cancel] at hstop
                    rcases hstop with h | ⟨h, h'⟩ | ⟨h, h'⟩
                    · omega
                    all_goals clear HG hN HD HL HB
                    all_goals go_wp2_with fail
                    all_goals go_ret2
                    all_goals exact ⟨ret_pair (by rw [HE.out]) (by rw [HE.out]), Below.refl _ _⟩
                  · have HG' : Hid (Got f m (k + 1) b off cap l (j' + 1) (.slice (some ⟨b, off + l, none⟩) (j' + 1 - l) (cap - l))) := by
                      refine ⟨?_, fun _ => ⟨by omega, ?_, rfl⟩⟩
                      · rw [st, HG.out.1]; show nxt f i = _; rw [hN.out l HB, if_neg hlj]
                      · intro q h1 h2; exact bk_all (fun x => isDg (f x)) (j' + 1) q (by rw [HB]; exact h1) h2
                    by_cases hz : l = 0
                    · subst hz
                      clear HG hN HD HL HB hstop
                      go_wp2_with fail
                      go_round
                      case rel => exact ⟨k + 1, 0, j' + 1, by omega, by omega, by omega, by go_num, rfl, HG'⟩
                      case measure => simp only [intOf]; omega
                    · obtain ⟨l, rfl⟩ : ∃ l', l = l' + 1 := ⟨l - 1, by omega⟩
                      simp only [Nat.add_sub_cancel] at hstop
                      obtain ⟨c1, b1⟩ := HD.out l (by omega) (by omega)
                      rw [show j' + 1 - (l + 1) = j' - l from by omega] at HG'
                      rcases hstop with h | ⟨h, h'⟩ | ⟨h, h'⟩
                      · omega
                      · clear HG hN HD HL HB
                        go_wp2_with fail
                        go_round
                        case rel => exact ⟨k + 1, l + 1, j' + 1, by omega, by omega, by omega, by go_num, rfl, HG'⟩
                        case measure => simp only [intOf]; omega
                      · clear HG hN HD HL HB
                        go_wp2_with fail
                        go_round
                        case rel => exact ⟨k + 1, l + 1, j' + 1, by omega, by omega, by omega, by go_num, rfl, HG'⟩
                        case measure => simp only [intOf]; omega
    · obtain rfl : k = 2 := by omega
      obtain ⟨g1, g2⟩ := HG.out
      obtain ⟨g3, g4, rfl⟩ := g2 (by omega)
      have HO : Hid (objB f m = if 0 < i ∧ reg (f (i - 1)) = true then none else some (i, y)) := by
        unfold Hid objB; rw [g1]; rfl
      clear g1 g2 HG
      by_cases hr : 0 < i ∧ reg (f (i - 1)) = true
      · have HE : Hid (outB f (objB f m) = (0, false)) := by unfold Hid; rw [HO.out, if_pos hr]; rfl
        obtain ⟨h1, h2⟩ := hr
        obtain ⟨i, rfl⟩ : ∃ j', i = j' + 1 := ⟨i - 1, by omega⟩
        simp only [Nat.add_sub_cancel] at h2
        have c1 := hc i (by omega)
        have b1 := hb i (by omega)
        clear hc hb g4 HO
        go_wp2_with (go_at_call 16; refine (regular_any _ _ b1.1 b1.2).mono ?_; rintro e w' ⟨rfl, rfl⟩; rw [show (!isWh (f i) && !isDl (f i)) = true from h2])
        go_ret2
        exact ⟨ret_pair (by rw [HE.out]) (by rw [HE.out]), Below.refl _ _⟩
      · have HE : Hid (outB f (objB f m) = numB (fun j => f (i + j)) (y - i)) := by unfold Hid; rw [HO.out, if_neg hr]; rfl
        have hdig : ∀ j, j < y - i → 48 ≤ f (i + j) ∧ f (i + j) ≤ 57 := by
          intro j hj; simpa [isDg] using g4 (i + j) (by omega) (by omega)
        have cells : ∀ j, j < y - i → w.cell? ⟨b, off + i + j, none⟩ = some (.int .u8 ((nums (fun j => f (i + j)) (y - i)).getD j 0)) := by
          intro j hj; rw [nums_getD _ _ _ hj, Nat.add_assoc]; exact hc (i + j) (by omega)
        obtain ⟨PL, PS⟩ := parseInt_law (f := fun j => f (i + j)) (n := y - i) (by omega) hdig
        have g := run_convert_bytes_arg (P := Tryd.prog) w 22 5 Tryd.underlying22 Tryd.underlying5 b (off + i) (y - i) (cap - i) (nums (fun j => f (i + j)) (y - i)) (nums_length _ _) cells 9 Tryd.underlying9
        generalize hs : strOfNums (nums (fun j => f (i + j)) (y - i)) = s at g PL PS
        have hsz : s.size ≤ 65536 := by rw [← hs, strOfNums_size, nums_length]; omega
        have ready : i = 0 ∨ ∃ i', i = i' + 1 ∧ (!isWh (f i') && !isDl (f i')) = false ∧ w.cell? ⟨b, off + i', none⟩ = some (.int .u8 (f i')) ∧ 0 ≤ f i' ∧ f i' ≤ 255 := by
          by_cases hz : i = 0
          · exact Or.inl hz
          · right
            refine ⟨i - 1, by omega, ?_, hc _ (by omega), hb _ (by omega)⟩
            have : ¬ reg (f (i - 1)) = true := fun h => hr ⟨by omega, h⟩
            simpa [reg] using this
        by_cases hle : dval (fun j => f (i + j)) (y - i) ≤ 9223372036854775807
        · have HN : Hid (numB (fun j => f (i + j)) (y - i) = (dval (fun j => f (i + j)) (y - i), true)) := by unfold Hid numB; rw [if_pos hle]
          rw [if_pos hle] at PL
          generalize dval (fun j => f (i + j)) (y - i) = v at PL HN
          clear hc hb g4 HO hdig cells hle hr
          rcases ready with hz | ⟨i', hi', q1, c1, b1⟩
          · subst hz
            simp only [Nat.add_zero, Nat.sub_zero] at g
            go_wp2_with fail
            refine (Tryd.strconv_ParseInt_10_at64_ok s (by omega) v PL _).mono ?_
            rintro e w' ⟨rfl, hw'⟩
            have hbl : Below w.heap.size w w' := by
              rcases hw' with rfl | ⟨t, rfl⟩
              · exact Below.refl _ _
              · exact Lib.bytesWorld_below _ _ _
            clear hw'
            go_wp2_with fail
            go_quiet (fail)
            go_wp2_with fail
            go_ret2
            exact ⟨ret_pair (by rw [HE.out, HN.out]) (by rw [HE.out, HN.out]), below_drewN hbl _⟩
          · subst hi'
            go_wp2_with (go_at_call 16; refine (regular_any _ _ b1.1 b1.2).mono ?_; rintro e w' ⟨rfl, hw⟩; rw [q1]; subst w')
            go_at_call 17
            refine (Tryd.strconv_ParseInt_10_at64_ok s (by omega) v PL _).mono ?_
            rintro e w' ⟨rfl, hw'⟩
            have hbl : Below w.heap.size w w' := by
              rcases hw' with rfl | ⟨t, rfl⟩
              · exact Below.refl _ _
              · exact Lib.bytesWorld_below _ _ _
            clear hw'
            go_wp2_with fail
            go_quiet (fail)
            go_wp2_with fail
            go_ret2
            exact ⟨ret_pair (by rw [HE.out, HN.out]) (by rw [HE.out, HN.out]), below_drewN hbl _⟩
        · have HN : Hid (numB (fun j => f (i + j)) (y - i) = (9223372036854775807, false)) := by unfold Hid numB; rw [if_neg hle]
          rw [if_neg hle] at PL
          clear hc hb g4 HO hdig cells hle hr
          rcases ready with hz | ⟨i', hi', q1, c1, b1⟩
          · subst hz
            simp only [Nat.add_zero, Nat.sub_zero] at g
            go_wp2_with fail
            refine (Tryd.strconv_ParseInt_10_at64_range s (by omega) PL _ _ hv (Or.inr ⟨_, _, rfl⟩)).mono ?_
            rintro e w' ⟨N, rfl, hN1, hN2, hbl⟩
            rw [PS]
            clear hN2
            go_wp2_with fail
            go_quiet (fail)
            go_wp2_with fail
            go_ret2
            exact ⟨ret_pair (by rw [HE.out, HN.out]) (by rw [HE.out, HN.out]), below_drewN hbl _⟩
          · subst hi'
            go_wp2_with (go_at_call 16; refine (regular_any _ _ b1.1 b1.2).mono ?_; rintro e w' ⟨rfl, hw⟩; rw [q1]; subst w')
            go_at_call 17
            refine (Tryd.strconv_ParseInt_10_at64_range s (by omega) PL _ _ hv (Or.inr ⟨_, _, rfl⟩)).mono ?_
            rintro e w' ⟨N, rfl, hN1, hN2, hbl⟩
            rw [PS]
            clear hN2
            go_wp2_with fail
            go_quiet (fail)
            go_wp2_with fail
            go_ret2
            exact ⟨ret_pair (by rw [HE.out, HN.out]) (by rw [HE.out, HN.out]), below_drewN hbl _⟩

theorem object_out (a : Option Addr) (n cap : Nat) (at_ : Int) (f : Nat → Int) (w : World) (hn : n ≤ 65536) (hcap : n ≤ cap) (hcap2 : cap ≤ 9223372036854775807) (hat : at_ ≤ n) (hb : ∀ j, j < n → 0 ≤ f j ∧ f j ≤ 255) (h : RowAt w a n (fun j => .int .u8 (f j))) (te : TypeId) (pe : Value) (hv : w.cell? ⟨1, 0, none⟩ = some (.iface te pe)) :
    Calls Tryd.prog 7 #[.slice a n cap, .int .i64 at_] w fun e w' => e = .returned (.tuple #[.int .i64 (outB f (objB f at_.toNat)).1, .bool (outB f (objB f at_.toNat)).2]) ∧ Below w.heap.size w w' := by
  go_enter Tryd.func7, Tryd.ntmps7
  go_wp2_with (go_at_call 14; refine (object_any _ _ _ _ f _ hn hcap hcap2 hat hb h te pe hv).mono ?_; rintro e w' ⟨rfl, hbl⟩)
  go_ret2
  exact ⟨rfl, hbl⟩
end Go.Proofs.Qxb6619267aDoor
