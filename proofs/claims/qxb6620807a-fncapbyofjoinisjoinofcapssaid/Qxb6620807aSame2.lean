import Derived.Test.Qxb6620807aLaw2
import Derived.Test.Qxb6620807aSame
namespace Go.Proofs.Qxb6620807a
open Go.RowKit
set_option linter.unusedVariables false

theorem bytes_eq {a b : ByteArray} (h : a.toList = b.toList) : a = b := by
  rw [ByteArray.toList_eq, ByteArray.toList_eq] at h
  cases a; cases b
  simp only at h
  congr
  exact Array.toList_inj.1 h

theorem rows_congr {w : World} {a : Option Addr} {n : Nat} {f g : Nat → Value} (h : RowAt w a n f) (e : ∀ j, j < n → f j = g j) : RowAt w a n g := by
  obtain ⟨b, off, h1, h2⟩ := h
  exact ⟨b, off, h1, fun j hj => by rw [← e j hj]; exact h2 j hj⟩

theorem same_cx {l1 l2 l3 r1 r2 r3 : Option Addr} {rs rs' : List Rw} {M : Nat} (he : rs.map Rw.rn = rs'.map Rw.rn) (hl : (cxOf l1 l2 l3 rs).Good M) (w : World) (al : (cxOf l1 l2 l3 rs).At w) (ar : (cxOf r1 r2 r3 rs').At w) :
    Calls Try.prog 18 #[(cxOf l1 l2 l3 rs).val, (cxOf r1 r2 r3 rs').val] w (fun e w' => Said true w w' e) := by
  have hn : rs'.length = rs.length := by have := congrArg List.length he; simpa using this.symm
  have hM := hl.hM
  have hnM : rs.length ≤ M := hl.hn
  have hj : ∀ j, j < rs.length → (rs'.getD j drw).s = (rs.getD j drw).s ∧ (rs'.getD j drw).u = (rs.getD j drw).u ∧ (rs'.getD j drw).X = (rs.getD j drw).X := by
    intro j hj
    have h1 : (rs.map Rw.rn)[j]? = (rs'.map Rw.rn)[j]? := by rw [he]
    rw [List.getElem?_map, List.getElem?_map, List.getElem?_eq_getElem hj, List.getElem?_eq_getElem (by omega)] at h1
    simp only [Option.map_some, Option.some.injEq, Rw.rn, Prod.mk.injEq] at h1
    obtain ⟨k1, k2, k3⟩ := h1
    rw [List.getD_eq_getElem?_getD, List.getD_eq_getElem?_getD, List.getElem?_eq_getElem hj, List.getElem?_eq_getElem (show j < rs'.length by omega)]
    exact ⟨bytes_eq k1.symm, k2.symm, k3.symm⟩
  have hs := ar.s
  have hu := ar.u
  have hb := ar.b
  have hf := ar.f
  show Calls Try.prog 18 #[_, .agg #[.slice r1 rs'.length rs'.length, .slice r2 rs'.length rs'.length, .slice r3 rs'.length rs'.length]] w _
  have e1 : (cxOf r1 r2 r3 rs').n = rs.length := hn
  rw [e1] at hs hu hb hf
  rw [hn]
  refine same_f l1 l2 l3 r1 r2 r3 rs.length rs.length rs.length rs.length rs.length rs.length rs.length (cxOf l1 l2 l3 rs).S (cxOf l1 l2 l3 rs).U (cxOf l1 l2 l3 rs).A (cxOf r1 r2 r3 rs').A (cxOf l1 l2 l3 rs).L (cxOf l1 l2 l3 rs).C (cxOf r1 r2 r3 rs').C (cxOf l1 l2 l3 rs).F w (by omega) (fun j h => by have := hl.len j h; omega) al ⟨?_, ?_, ?_, ?_⟩
  · exact rows_congr hs (fun j h => by show Value.string (rs'.getD j drw).s = Value.string (rs.getD j drw).s; rw [(hj j h).1])
  · exact rows_congr hu (fun j h => by show Value.int .u64 (rs'.getD j drw).u = Value.int .u64 (rs.getD j drw).u; rw [(hj j h).2.1])
  · exact rows_congr hb (fun j h => by show Value.slice _ (rs'.getD j drw).X.length _ = Value.slice _ (rs.getD j drw).X.length _; rw [(hj j h).2.2])
  · intro j h
    have := hf j h
    have eL : (cxOf r1 r2 r3 rs').L j = (cxOf l1 l2 l3 rs).L j := by show (rs'.getD j drw).X.length = (rs.getD j drw).X.length; rw [(hj j h).2.2]
    rw [eL] at this
    refine rows_congr this (fun k _ => ?_)
    show Value.int .u64 (ix (rs'.getD j drw).X k) = Value.int .u64 (ix (rs.getD j drw).X k)
    rw [(hj j h).2.2]
end Go.Proofs.Qxb6620807a
