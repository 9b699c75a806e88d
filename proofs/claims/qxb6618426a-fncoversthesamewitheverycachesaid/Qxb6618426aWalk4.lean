import Derived.Test.Qxb6618426aParts4
namespace Go.Proofs.Qxb6618426a
open Go.RowKit

set_option maxHeartbeats 1000000 in
set_option maxRecDepth 100000 in
theorem walk4_out (ga ea ra qa : Option Addr) (G gc E ec R rc Q qc : Nat) (pa la : Nat → Option Addr) (pn pc ln lc : Nat → Nat) (gs : Nat → Int) (ps : Nat → Nat → ByteArray) (lf : Nat → Nat → Int) (rf : Nat → Int) (qs : Nat → ByteArray)
    (wd cm bw : Int) (kp ub ks : Bool) (w : World) (h : Args w ga ea ra qa G E R Q pa la pn pc ln lc gs ps lf rf qs) (hbw : -2147483648 ≤ bw ∧ bw ≤ 2147483647)
    (hout : ¬ (1 ≤ wd ∧ wd ≤ 64 ∧ 0 ≤ cm ∧ cm ≤ E ∧ 0 ≤ bw ∧ bw ≤ E)) :
    Calls Try.prog 4 #[.slice ga G gc, .slice ea E ec, .slice ra R rc, .slice qa Q qc, .int .i64 wd, .int .i64 cm, .bool kp, .int .i32 bw, .bool ub, .bool ks] w fun e w' => e = .returned (.bool true) ∧ Below w.heap.size w w' := by
  have HO : Hid (¬ (1 ≤ wd ∧ wd ≤ 64 ∧ 0 ≤ cm ∧ cm ≤ E ∧ 0 ≤ bw ∧ bw ≤ E)) := hout
  clear hout
  go_enter Try.func4, Try.ntmps4
  go_wp2_with fail
  refine (bytes2_any _ _ _ _ _ _ _ _ _ _ _ _ _ _ _ _ _ _ _ _ _ _ _ _ _ _ _ _ _ h.g h.e h.q).mono ?_
  rintro e w1 ⟨⟨r, rfl, hS⟩, hw⟩
  subst hw
  cases r with
  | false =>
    go_wp2_with fail
    go_ret
    exact ⟨rfl, Below.refl _ _⟩
  | true =>
  have S := hS rfl
  clear hS
  go_wp2_with fail
  refine (sizeOK_any _ _ _ _ _ _ _ _ _ _ _ _ _ _ _ _ _ _ _ _ _ _ _ h.g h.e h.q S).mono ?_
  rintro e w2 ⟨⟨r, rfl, _⟩, hw⟩
  subst hw
  cases r with
  | false =>
    go_wp2_with fail
    go_ret
    exact ⟨rfl, Below.refl _ _⟩
  | true =>
  clear h
  go_wp2_with fail
  all_goals first
    | (go_ret; exact ⟨rfl, Below.refl _ _⟩)
    | (exfalso; have := HO.out; omega)
end Go.Proofs.Qxb6618426a
