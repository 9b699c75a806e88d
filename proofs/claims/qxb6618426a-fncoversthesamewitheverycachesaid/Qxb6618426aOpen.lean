import Derived.Test.Qxb6618426aWalk3
import Derived.ProofKit
import Derived.OpenShut
import Derived.Deep.Slices
import Derived.Deep.SlicePairs
import Derived.Deep.Matrix
import Derived.Deep.Strs
namespace Go.Proofs.Qxb6618426a
open Go.RowKit Go.Deep Go.ChangeShapes Go.WideShapes

theorem Try.cells50 : Try.prog.cellsOf 50 = 2 := by kernel_rfl
theorem Try.cells25 : Try.prog.cellsOf 25 = 1 := by kernel_rfl
theorem Try.cells21 : Try.prog.cellsOf 21 = 1 := by kernel_rfl
theorem Try.cells9 : Try.prog.cellsOf 9 = 1 := by kernel_rfl
theorem Try.cells24 : Try.prog.cellsOf 24 = 1 := by kernel_rfl

/-- From an address and its cells to a row. -/
theorem rowAt_of {w : World} {a : Addr} {n : Nat} {V : Nat → Value} (h : ∀ i, i < n → w.cell? (a.add i) = some (V i)) : RowAt w (some a) n V := by
  obtain ⟨b, off, sp⟩ := a
  by_cases hn : 0 < n
  · have h0 := h 0 hn
    have hs : sp = none := by
      cases sp with
      | none => rfl
      | some x => simp [Addr.add, World.cell?] at h0; split at h0 <;> simp at h0
    subst hs
    refine ⟨b, off, fun _ => rfl, fun j hj => ?_⟩
    have := h j hj
    by_cases e : j = 0
    · subst e; simpa [Addr.add] using this
    · simpa [Addr.add, e] using this
  · exact ⟨b, off, fun hh => absurd hh hn, fun j hj => by omega⟩

section
variable {H : Type} {enc : TypeId × Value → H} {w : World} {base : Nat} {held : Bool} {fuel : Nat} {cs : List Value} {x : DataW H × List MemPlace}

theorem open_strs' (h : DataW.trod enc Try.prog w base (fun _ => true) held fuel 25 cs = some x) :
    ∃ (a : Option Addr) (len cap : Nat) (qs : Nat → ByteArray), cs = [.slice a len cap] ∧ RowAt w a len (fun j => .string (qs j)) ∧ (a = none → len = 0) := by
  rcases open_strs Try.underlying25 Try.underlying9 Try.cells9 h with ⟨h1, _⟩ | ⟨a, len, cap, m, Sx, h1, _, h2, _, h3, _, h4⟩
  · exact ⟨none, 0, 0, fun _ => ByteArray.empty, h1, ⟨0, 0, fun hh => by omega, fun j hj => by omega⟩, fun _ => rfl⟩
  · refine ⟨some a, len, cap, Sx, h1, rowAt_of (fun i hi => (h4 i (by rw [h3]; simp; omega)).1), by simp⟩

theorem open_i32s' (h : DataW.trod enc Try.prog w base (fun _ => true) held fuel 24 cs = some x) :
    ∃ (a : Option Addr) (len cap : Nat) (rf : Nat → Int), cs = [.slice a len cap] ∧ RowAt w a len (fun j => .int .i32 (rf j)) ∧ (a = none → len = 0) := by
  rcases open_ints Try.underlying24 Try.underlying21 Try.cells21 h with ⟨h1, _⟩ | ⟨a, len, cap, zs, h1, _, h2, _, h3, _, h4, _⟩
  · exact ⟨none, 0, 0, fun _ => 0, h1, ⟨0, 0, fun hh => by omega, fun j hj => by omega⟩, fun _ => rfl⟩
  · refine ⟨some a, len, cap, fun j => zs.getD j 0, h1, rowAt_of (fun i hi => h4 i (by rw [h3]; simp; omega)), by simp⟩

theorem open_lists' (h : DataW.trod enc Try.prog w base (fun _ => true) held fuel 23 cs = some x) :
    ∃ (a : Option Addr) (len cap : Nat) (la : Nat → Option Addr) (ln lc : Nat → Nat) (lf : Nat → Nat → Int), cs = [.slice a len cap] ∧ ListsAt w a len la ln lc lf ∧ (a = none → len = 0) ∧ ∀ i, i < len → la i = none → ln i = 0 := by
  rcases open_int_rows Try.underlying23 Try.underlying24 Try.underlying21 Try.cells24 Try.cells21 h with ⟨h1, _⟩ | ⟨a, len, cap, A, L, C, Z, h1, _, h2, _, _, h3⟩
  · exact ⟨none, 0, 0, fun _ => none, fun _ => 0, fun _ => 0, fun _ _ => 0, h1, ⟨⟨0, 0, fun hh => by omega, fun j hj => by omega⟩, fun i hi => by omega⟩, fun _ => rfl, fun i hi => by omega⟩
  · refine ⟨some a, len, cap, A, L, C, fun r j => (Z r).getD j 0, h1, ⟨rowAt_of (fun i hi => (h3 i (by omega)).1), fun i hi => ?_⟩, by simp, fun i hi e => ?_⟩
    · obtain ⟨_, g1, _, _, _, g5, g6⟩ := h3 i (by omega)
      cases hA : A i with
      | none =>
        have : L i = 0 := by have := g5 hA; omega
        rw [this]
        exact ⟨0, 0, fun hh => by omega, fun j hj => by omega⟩
      | some a' => exact rowAt_of (fun j hj => (g6 a' hA).2 j (by omega))
    · obtain ⟨_, g1, _, _, _, g5, _⟩ := h3 i (by omega)
      have := g5 e; omega

theorem i32_bounds {n : Int} (h : (Lit.int .i32 n).wf = true) : -2147483648 ≤ n ∧ n ≤ 2147483647 := by
  exact bounds_i32 h

theorem open_grants' (h : DataW.trod enc Try.prog w base (fun _ => true) held fuel 22 cs = some x) :
    ∃ (a : Option Addr) (len cap : Nat) (pa : Nat → Option Addr) (pn pc : Nat → Nat) (gs : Nat → Int) (ps : Nat → Nat → ByteArray), cs = [.slice a len cap] ∧ GrantsAt w a len pa pn pc gs ps ∧ ∀ i, i < len → -2147483648 ≤ gs i ∧ gs i ≤ 2147483647 := by
  obtain ⟨f0, f1, hu, ho0, ho1, ht0, ht1⟩ : ∃ f0 f1 : Field, Try.prog.underlying 50 = some (.struct #[f0, f1]) ∧ f0.offset = 0 ∧ f1.offset = 1 ∧ f0.type = 25 ∧ f1.type = 21 := ⟨_, _, Try.underlying50, rfl, rfl, rfl, rfl⟩
  rcases open_slice_pairs Try.underlying22 hu Try.cells50 ho0 ho1 (by rw [ht0]; exact Try.cells25) (by rw [ht1]; exact Try.cells21) h with ⟨h1, _⟩ | ⟨a, len, cap, m, n, V0, V1, D0, D1, P0, P1, h1, _, h2, _, h3, _, h4⟩
  · exact ⟨none, 0, 0, fun _ => none, fun _ => 0, fun _ => 0, fun _ => 0, fun _ _ => ByteArray.empty, h1, ⟨⟨0, 0, fun hh => by omega, fun j hj => by omega⟩, fun i hi => by omega⟩, fun i hi => by omega⟩
  · simp only [if_true] at h3
    have each : ∀ i, i < len → ∃ y : Option Addr × Nat × Nat × (Nat → ByteArray) × Int, V0 i = .slice y.1 y.2.1 y.2.2.1 ∧ RowAt w y.1 y.2.1 (fun j => .string (y.2.2.2.1 j)) ∧ V1 i = .int .i32 y.2.2.2.2 ∧ -2147483648 ≤ y.2.2.2.2 ∧ y.2.2.2.2 ≤ 2147483647 := by
      intro i hi
      obtain ⟨_, _, g3, g4⟩ := h4 i (by omega)
      rw [ht0] at g3
      rw [ht1] at g4
      obtain ⟨a', l', c', qs, e1, e2, _⟩ := open_strs' g3
      obtain ⟨z, e3, _, e4⟩ := DataW.trod_int Try.underlying21 g4
      exact ⟨(a', l', c', qs, z), by simpa using e1, e2, by simpa using e3, i32_bounds e4⟩
    obtain ⟨y, hy⟩ := choose_lt each
    refine ⟨some a, len, cap, fun i => (y i).1, fun i => (y i).2.1, fun i => (y i).2.2.1, fun i => (y i).2.2.2.2, fun i => (y i).2.2.2.1, h1, ⟨?_, fun i hi => (hy i hi).2.1⟩, fun i hi => (hy i hi).2.2.2⟩
    have hrow : RowAt w (some a) (len * 2) (fun k => if k % 2 = 0 then V0 (k / 2) else V1 (k / 2)) := rowAt_of (fun k hk => by
      have hk2 : k / 2 < m := by omega
      by_cases e : k % 2 = 0
      · rw [if_pos e]
        have := (h4 (k / 2) hk2).1
        rw [show k / 2 * 2 = k from by omega] at this; exact this
      · rw [if_neg e]
        have := (h4 (k / 2) hk2).2.1
        rw [show k / 2 * 2 + 1 = k from by omega] at this; exact this)
    obtain ⟨b, off, ha, hc⟩ := hrow
    refine ⟨b, off, fun hh => ha (by omega), fun i hi => ?_⟩
    have c0 := hc (i * 2) (by omega)
    have c1 := hc (i * 2 + 1) (by omega)
    dsimp only at c0 c1
    rw [if_pos (by omega), show i * 2 / 2 = i from by omega, (hy i hi).1] at c0
    rw [if_neg (by omega), show (i * 2 + 1) / 2 = i from by omega, (hy i hi).2.2.1] at c1
    exact ⟨c0, c1⟩
end
end Go.Proofs.Qxb6618426a
