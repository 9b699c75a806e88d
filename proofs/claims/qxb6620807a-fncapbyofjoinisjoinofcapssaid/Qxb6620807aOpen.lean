import Derived.Test.Qxb6620807aLaw
import Derived.ProofKit
import Derived.OpenShut
import Derived.Deep.Slices
import Derived.Deep.SlicePairs
import Derived.Deep.Matrix
import Derived.Deep.Strs
namespace Go.Proofs.Qxb6620807a
open Go.RowKit Go.Deep Go.ChangeShapes Go.WideShapes

theorem Try.cells9 : Try.prog.cellsOf 9 = 1 := by kernel_rfl
theorem Try.cells41 : Try.prog.cellsOf 41 = 1 := by kernel_rfl
theorem Try.cells23 : Try.prog.cellsOf 23 = 1 := by kernel_rfl

/-- From an address and its cells to a row. -/
theorem rowAt_of {w : World} {a : Addr} {n : Nat} {V : Nat → Value} (h : ∀ i, i < n → w.cell? (a.add i) = some (V i)) : RowAt w (some a) n V := by
  obtain ⟨b, off, sp⟩ := a
  by_cases hn : 0 < n
  · have h0 := h 0 hn
    have hs : sp = none := by
      cases sp with
      | none => rfl
      | some x => simp [Addr.add, World.cell?] at h0; split at h0 <;> simp at h0
    subst hs
    refine ⟨b, off, fun _ => rfl, fun j hj => ?_⟩
    have := h j hj
    by_cases e : j = 0
    · subst e; simpa [Addr.add] using this
    · simpa [Addr.add, e] using this
  · exact ⟨b, off, fun hh => absurd hh hn, fun j hj => by omega⟩

theorem u64_bounds {n : Int} (h : (Lit.int .u64 n).wf = true) : In64 n := bounds_u64 h

section
variable {H : Type} {enc : TypeId × Value → H} {w : World} {base : Nat} {held : Bool} {fuel : Nat} {cs : List Value} {x : DataW H × List MemPlace}

theorem open_strs' (h : DataW.trod enc Try.prog w base (fun _ => true) held fuel 22 cs = some x) :
    ∃ (a : Option Addr) (len cap : Nat) (qs : Nat → ByteArray), cs = [.slice a len cap] ∧ RowAt w a len (fun j => .string (qs j)) ∧ (a = none → len = 0) := by
  rcases open_strs Try.underlying22 Try.underlying9 Try.cells9 h with ⟨h1, _⟩ | ⟨a, len, cap, m, Sx, h1, _, h2, _, h3, _, h4⟩
  · exact ⟨none, 0, 0, fun _ => ByteArray.empty, h1, ⟨0, 0, fun hh => by omega, fun j hj => by omega⟩, fun _ => rfl⟩
  · refine ⟨some a, len, cap, Sx, h1, rowAt_of (fun i hi => (h4 i (by rw [h3]; simp; omega)).1), by simp⟩

theorem open_u64s' (h : DataW.trod enc Try.prog w base (fun _ => true) held fuel 23 cs = some x) :
    ∃ (a : Option Addr) (len cap : Nat) (rf : Nat → Int), cs = [.slice a len cap] ∧ RowAt w a len (fun j => .int .u64 (rf j)) ∧ (a = none → len = 0) ∧ ∀ j, j < len → In64 (rf j) := by
  rcases open_ints Try.underlying23 Try.underlying41 Try.cells41 h with ⟨h1, _⟩ | ⟨a, len, cap, zs, h1, _, h2, _, h3, h5, h4, h6⟩
  · exact ⟨none, 0, 0, fun _ => 0, h1, ⟨0, 0, fun hh => by omega, fun j hj => by omega⟩, fun _ => rfl, fun j hj => by omega⟩
  · refine ⟨some a, len, cap, fun j => zs.getD j 0, h1, rowAt_of (fun i hi => h4 i (by rw [h3]; simp; omega)), by simp, fun j hj => ?_⟩
    have hj' : j < zs.length := by rw [h3]; simp; omega
    refine u64_bounds (h6 _ ?_)
    show zs.getD j 0 ∈ zs
    rw [List.getD_eq_getElem?_getD, List.getElem?_eq_getElem hj']
    exact List.getElem_mem _

theorem open_lists' (h : DataW.trod enc Try.prog w base (fun _ => true) held fuel 24 cs = some x) :
    ∃ (a : Option Addr) (len cap : Nat) (la : Nat → Option Addr) (ln lc : Nat → Nat) (lf : Nat → Nat → Int), cs = [.slice a len cap] ∧ RowAt w a len (fun j => .slice (la j) (ln j) (lc j)) ∧ (∀ j, j < len → RowAt w (la j) (ln j) (fun k => .int .u64 (lf j k))) ∧
      (a = none → len = 0) ∧ (∀ i, i < len → la i = none → ln i = 0) ∧ ∀ j, j < len → ∀ k, k < ln j → In64 (lf j k) := by
  rcases open_int_rows Try.underlying24 Try.underlying23 Try.underlying41 Try.cells23 Try.cells41 h with ⟨h1, _⟩ | ⟨a, len, cap, A, L, C, Z, h1, _, h2, _, _, h3⟩
  · exact ⟨none, 0, 0, fun _ => none, fun _ => 0, fun _ => 0, fun _ _ => 0, h1, ⟨0, 0, fun hh => by omega, fun j hj => by omega⟩, fun i hi => by omega, fun _ => rfl, fun i hi => by omega, fun i hi => by omega⟩
  · refine ⟨some a, len, cap, A, L, C, fun r j => (Z r).getD j 0, h1, rowAt_of (fun i hi => (h3 i (by omega)).1), fun i hi => ?_, by simp, fun i hi e => ?_, fun i hi k hk => ?_⟩
    · obtain ⟨_, g1, _, _, _, g5, g6⟩ := h3 i (by omega)
      cases hA : A i with
      | none =>
        have : L i = 0 := by have := g5 hA; omega
        rw [this]
        exact ⟨0, 0, fun hh => by omega, fun j hj => by omega⟩
      | some a' => exact rowAt_of (fun j hj => (g6 a' hA).2 j (by omega))
    · obtain ⟨_, g1, _, _, _, g5, _⟩ := h3 i (by omega)
      have := g5 e; omega
    · obtain ⟨_, g1, _, g3, g4, _, _⟩ := h3 i (by omega)
      refine u64_bounds (g4 _ ?_)
      have hk' : k < (Z i).length := by omega
      show (Z i).getD k 0 ∈ Z i
      rw [List.getD_eq_getElem?_getD, List.getElem?_eq_getElem hk']
      exact List.getElem_mem _
end
end Go.Proofs.Qxb6620807a
