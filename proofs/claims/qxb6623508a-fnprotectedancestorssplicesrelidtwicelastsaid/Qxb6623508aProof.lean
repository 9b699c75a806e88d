/-
  The law 'Rows.FnProtectedAncestorsSplicesRelidTwiceLastSaid', proved over the walks of Qxb6623508aWalks.
-/
import Derived.Test.Qxb6623508aWalks
import Derived.WalkKit
import Derived.ProofKit
import Derived.OpenShut
import Derived.ShutString
namespace Go.Proofs.Qxb6623508a.fnProtectedAncestorsSplicesRelidTwiceLast
open Go.ChangeShapes Go.WideShapes Go.ChangeAt Go.RowKit
open Go.ChangeMaps (open_string shut_string)
set_option linter.unusedVariables false      -- a walk need not use every 'w<i>' (that an integer argument fits its kind)

theorem own : ownKnob Try.prog.godebug = none := by kernel_rfl

theorem app_size (a b : ByteArray) : (a ++ b).size = a.size + b.size := ByteArray.size_append

theorem lits : litA.size = 43 ∧ litB.size = 3 ∧ litC.size = 78 := by decide +kernel

theorem anc_size (x : ByteArray) : (litA ++ x ++ litB ++ litC ++ x).size = 124 + 2 * x.size := by
  have := lits
  simp only [app_size]; omega

theorem ba_get_right (a b : ByteArray) (k : Nat) (hk : k < b.size) (h : a.size + k < (a ++ b).size) : (a ++ b)[a.size + k]'h = b[k] := by
  rw [ByteArray.getElem_append_right (by omega)]
  simp

theorem ba_toList (a b : ByteArray) : (a ++ b).data.toList = a.data.toList ++ b.data.toList := by simp

theorem ba_ext {a b : ByteArray} (h : a.data.toList = b.data.toList) : a = b := by
  cases a; cases b; simp at h; simp [h]

theorem anc_inj (x y : ByteArray) (h : litA ++ x ++ litB ++ litC ++ x = litA ++ y ++ litB ++ litC ++ y) : x = y := by
  have hs := congrArg ByteArray.size h
  simp only [ByteArray.size_append] at hs
  have hl := congrArg (fun b : ByteArray => b.data.toList) h
  simp only [ba_toList] at hl
  have := (List.append_inj' hl (by simp; omega)).2
  exact ba_ext this

def anc (x : ByteArray) : ByteArray := litA ++ x ++ litB ++ litC ++ x

theorem anc_last (x : ByteArray) (k : Nat) (hk : k < x.size) (h' : (anc x).size - x.size + k < (anc x).size) : (anc x)[(anc x).size - x.size + k]'h' = x[k] := by
  have e : (anc x).size - x.size + k = (litA ++ x ++ litB ++ litC).size + k := by
    unfold anc; rw [app_size (litA ++ x ++ litB ++ litC) x]; omega
  simp only [e]
  exact ba_get_right (litA ++ x ++ litB ++ litC) x k hk _

theorem anc_same (x y : ByteArray) : ((anc x).toList == (anc y).toList) = (x.toList == y.toList) := by
  by_cases h : x = y
  · subst h; simp
  · have h1 : x.toList ≠ y.toList := fun e => h (ba_ext (by rw [← ByteArray.toList_eq, ← ByteArray.toList_eq]; exact e))
    have h2 : (anc x).toList ≠ (anc y).toList := fun e => h (anc_inj x y (ba_ext (by rw [← ByteArray.toList_eq, ← ByteArray.toList_eq]; exact e)))
    rw [beq_eq_false_iff_ne.2 h1, beq_eq_false_iff_ne.2 h2]

theorem anc2_any (x : ByteArray) (w : World) (hx : x.size ≤ 1048576) :
    Calls Try.prog 5 #[.string x] w fun e w' => e = .returned (.string (anc x)) ∧ w' = w := by
  go_enter Try.func5, Try.ntmps5
  go_wp2_with (go_at_call 7; refine (anc_any _ _ hx).mono ?_; rintro e w' ⟨rfl, rfl⟩)
  go_ret
  exact ⟨rfl, rfl⟩

set_option maxHeartbeats 400000 in
theorem walk (a0 : ByteArray) (a1 : ByteArray) (w0 : a0.size ≤ maxLen) (w1 : a1.size ≤ maxLen) (w : World) :
    Calls Try.prog 3 #[.string a0, .string a1] w fun e w' => e = .returned (.bool true) ∧ Grown w w' := by
  by_cases hb : a0.size + a1.size ≤ 1048576
  · have hd : decide (a0.size + a1.size ≤ 1048576) = true := by simpa using hb
    have s0 : (anc a0).size = 124 + 2 * a0.size := anc_size a0
    have s1 : (anc a1).size = 124 + 2 * a1.size := anc_size a1
    go_enter Try.func3, Try.ntmps3
    go_wp2_with (first
      | (go_at_call 4; refine (bytes_any a0 a1 _ w0 w1).mono ?_; rintro e w' ⟨rfl, rfl⟩)
      | (go_at_call 5; refine (anc2_any _ _ (by omega)).mono ?_; rintro e w' ⟨rfl, rfl⟩))
    refine (suffix_any (anc a0) a0 _ _ (Grown.refl _) (by omega) (by omega) (fun k hk => anc_last a0 k hk _)).mono ?_
    rintro e w1 ⟨rfl, g1⟩
    go_wp2_with fail
    refine (suffix_any (anc a1) a1 _ _ g1 (by omega) (by omega) (fun k hk => anc_last a1 k hk _)).mono ?_
    rintro e w2 ⟨rfl, g2⟩
    have hq := anc_same a0 a1
    go_wp2_with fail
    go_ret
    exact ⟨rfl, g2⟩
  · have hd : decide (a0.size + a1.size ≤ 1048576) = false := by simpa using hb
    go_enter Try.func3, Try.ntmps3
    go_wp2_with (go_at_call 4; refine (bytes_any a0 a1 _ w0 w1).mono ?_; rintro e w' ⟨rfl, rfl⟩)
    go_ret
    exact ⟨rfl, Grown.refl _⟩

/-! ### THE ROW's STEP: WRITTEN OUT: LEAVE IT -/
set_option maxRecDepth 100000 in
theorem lifted (os : Os) (started : os.Started) (H : Type) (enc : TypeId × Value → H) :
    ReturnsInHanded {} Try.checked os 3 .any (Rows.fnProtectedAncestorsSplicesRelidTwiceLastSpec.pre6 enc Try.prog Try.f3 Rows.fnProtectedAncestorsSplicesRelidTwiceLastRow.domain false) (Rows.fnProtectedAncestorsSplicesRelidTwiceLastSpec.post enc Try.prog Try.f3 false true false false) := by
  refine returnsInHanded_of_change (C := Try.checked) own started (by kernel_rfl) Try.func3
    (ChangeSpec.witness6 (enc := enc) (C := Try.checked) false ⟨#[], #[.string ByteArray.empty, .string ByteArray.empty], []⟩ 8 (by kernel_rfl) (by kernel_rfl) (by kernel_rfl) (by kernel_rfl)) ?_
  intro W base args ds gs before hval0 hW hcnd _
  have hval : ∀ (j : Nat) t v, Try.f3.params[j]? = some t → args[j]? = some v → Value.okWide Try.prog W .any base t v := hval0
  have hW' := hW
  obtain ⟨p, q, hA0, hV, rfl, hfz, hnd⟩ := hW
  have hA : DataW.TrodAll enc Try.prog W 0 (fun _ => true) true Try.f3.params.toList args.toList ds p := hA0
  rw [Try.params3] at hA hval
  obtain ⟨v0, vs0, d0, ds0, p0, q0, hargs, rfl, rfl, h0, r0⟩ := trodAll_cons hA
  obtain ⟨v1, vs1, d1, ds1, p1, q1, rfl, rfl, rfl, h1, r1⟩ := trodAll_cons r0
  obtain ⟨rfl, rfl, rfl⟩ := trodAll_nil r1
  obtain rfl : args = #[v0, v1] := by cases args; simp_all
  obtain ⟨rfl, rfl⟩ := trodVars_none hV
  obtain ⟨a0, rfl, rfl, rfl, w0⟩ := open_string Try.underlying9 (hval 0 9 v0 rfl rfl) h0
  obtain ⟨a1, rfl, rfl, rfl, w1⟩ := open_string Try.underlying9 (hval 1 9 v1 rfl rfl) h1
  clear hA0 hval0
  simp only [List.append_nil] at hW'
  refine (walk a0 a1 w0 w1 W).mono fun e W' ⟨he, hg⟩ => ?_
  subst he
  exact ⟨_, rfl, post_of_same (pa := []) (pv := []) hW' (fun _ _ _ => (trodAll_cons_mk (shut_bool Try.underlying4 _) trodAll_mk0)) (fun sp _ => (trodAll_cons_mk (shut_string Try.underlying9 w0) (trodAll_cons_mk (shut_string Try.underlying9 w1) trodAll_mk0))) (fun _ _ => rfl) rfl
    (hg.frame _) hg.2.1 (ok_one (by kernel_rfl) rfl (okWide_bool_mk Try.underlying4 _))⟩

theorem over : Rows.fnProtectedAncestorsSplicesRelidTwiceLastRow.holds Try.pinned (OpenSpec.ofChange Rows.fnProtectedAncestorsSplicesRelidTwiceLastSpec) :=
  OpenClaim.holds_of_wide 3 Try.f3 rfl rfl rfl rfl rfl rfl rfl ⟨rfl, rfl, rfl, rfl, rfl⟩ rfl rfl rfl rfl rfl (by kernel_rfl) Try.func3 (by kernel_rfl)
    (of_decide_eq_true (by kernel_rfl)) (by unfold Func.isWrapper; first | (rw [if_pos (by decide +kernel)]; kernel_rfl) | (rw [if_neg (by decide +kernel)]; exact ⟨rfl, rfl⟩))
    (fun os started H enc _ => lifted os started H enc)

/-- ████ THE STATEMENT ████ -/
theorem proved : Rows.FnProtectedAncestorsSplicesRelidTwiceLastSaid :=
  over
#print axioms proved
end Go.Proofs.Qxb6623508a.fnProtectedAncestorsSplicesRelidTwiceLast
