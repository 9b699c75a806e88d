import Derived.Test.Qxb6620807aRead2
import Derived.Lib.Bytealg
namespace Go.Proofs.Qxb6620807a
open Go.RowKit
set_option linter.unusedVariables false

set_option maxHeartbeats 1000000 in
theorem cmpString_any (a b : ByteArray) (w : World) : Calls Try.prog 38 #[.string a, .string b] w fun e w' => e = .returned (.int .i64 (Lib.compareBytes a.data.toList b.data.toList)) ∧ w' = w := by
  go_enter Try.func38, Try.ntmps38
  go_wp2
  rw [run_callFunc_extern Try.func42 (by kernel_rfl) (by kernel_rfl) (by kernel_rfl) (e := Extern.BytealgCompare.compare) (by kernel_rfl), Lib.run_compareString]
  simp only [Result.andThen]
  rw [Oper.upon_value]
  go_wp2
  go_ret
  exact ⟨rfl, rfl⟩
theorem compare_any (a b : ByteArray) (w : World) : Calls Try.prog 31 #[.string a, .string b] w fun e w' => e = .returned (.int .i64 (Lib.compareBytes a.data.toList b.data.toList)) ∧ w' = w := by
  go_enter Try.func31, Try.ntmps31
  go_wp2_with (go_at_call 38; refine (cmpString_any _ _ _).mono ?_; rintro e w' ⟨rfl, rfl⟩)
  go_ret
  exact ⟨rfl, rfl⟩

/-- The highest counter of a run. -/
def Last1 (v : Int) (w w' : World) (e : Ending) : Prop := e = .returned (.int .u64 v) ∧ Below w.heap.size w w'

theorem last_any (s : ByteArray) (u : Int) (a : Option Addr) (n c : Nat) (f : Nat → Int) (w : World) (hn : n ≤ 16777216) (h : RowAt w a n (fun j => .int .u64 (f j))) :
    Calls Try.prog 35 #[.agg #[.string s, .int .u64 u, .slice a n c]] w (fun e w' => Last1 (lastV u n f) w w' e) := by
  have B := box3' w (.string s) (.int .u64 u) (.slice a n c) 54
  have r := h.now B.below
  by_cases hz : n = 0
  · subst hz
    have HE : Hid (lastV u 0 f = u) := rfl
    go_enter Try.func35, Try.ntmps35
    go_wp2_with fail
    go_ret
    exact ⟨ret_int HE.out.symm, B.below⟩
  · obtain ⟨b, off, ha, hc⟩ := r
    have HE : Hid (lastV u n f = f (n - 1)) := by unfold Hid lastV; rw [if_neg hz]
    have q := hc (n - 1) (by omega)
    obtain rfl := ha (by omega)
    obtain ⟨m, rfl⟩ : ∃ m, n = m + 1 := ⟨n - 1, by omega⟩
    simp only [Nat.add_sub_cancel] at q HE
    clear hc ha h
    go_enter Try.func35, Try.ntmps35
    go_wp2_with fail
    go_ret
    exact ⟨ret_int HE.out.symm, B.below⟩
end Go.Proofs.Qxb6620807a
