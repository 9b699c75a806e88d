import Derived.Test.Qxb6618426aClone2
import Derived.ProofKit
namespace Go.Proofs.Qxb6618426a
open Go.RowKit Go.ChangeMaps

/-- The first entry under the key s. -/
def fnd (s : ByteArray) : List MapEntry → Nat → Option (Nat × Value)
  | [], _ => none
  | e :: es, i => match e.key with
    | .string t => if s == t then some (i, e.val) else fnd s es (i + 1)
    | _ => fnd s es (i + 1)

def StrKeys (es : List MapEntry) : Prop := ∀ e ∈ es, ∃ t, e.key = .string t

theorem findNow_str (s : ByteArray) : ∀ (es : List MapEntry) (i : Nat), StrKeys es → Instr.findNow .string (.string s) es i = some (fnd s es i)
  | [], _, _ => rfl
  | e :: es, i, h => by
    obtain ⟨t, ht⟩ := h e (by simp)
    have ih := findNow_str s es (i + 1) (fun x hx => h x (by simp [hx]))
    simp only [Instr.findNow, fnd, ht, Instr.sameNow]
    by_cases e1 : (s == t) = true
    · simp [e1]
    · have e2 : (s == t) = false := by simpa using e1
      simp only [e2]
      exact ih

theorem fnd_push (s t : ByteArray) (v : Value) (c : Nat) : ∀ (es : List MapEntry) (i : Nat), (fnd s (es ++ [{ key := .string t, val := v, born := c }]) i).map (·.2) = ((fnd s es i).map (·.2)).or (if s == t then some v else none)
  | [], i => by
    simp only [List.nil_append, fnd]
    split <;> simp
  | e :: es, i => by
    have ih := fnd_push s t v c es (i + 1)
    simp only [List.cons_append, fnd]
    cases e.key <;> simp only [ih]
    split <;> simp [ih]

/-- BLOCK b IS A MAP OF STRINGS THAT HOLDS M. -/
def MapHolds (w : World) (b : Nat) (M : ByteArray → Option Value) : Prop :=
  ∃ es clock, w.heap[b]? = some (.map es clock) ∧ StrKeys es.toList ∧ ∀ s, (fnd s es.toList 0).map (·.2) = M s

theorem MapHolds.of_block {w w' : World} {b : Nat} {M : ByteArray → Option Value} (h : MapHolds w b M) (e : w'.heap[b]? = w.heap[b]?) : MapHolds w' b M := by
  obtain ⟨es, c, hb, r⟩ := h
  exact ⟨es, c, e.trans hb, r⟩

theorem MapHolds.lt {w : World} {b : Nat} {M : ByteArray → Option Value} (h : MapHolds w b M) : b < w.heap.size := by
  obtain ⟨es, c, hb, r⟩ := h
  obtain ⟨hlt, _⟩ := Array.getElem?_eq_some_iff.1 hb
  exact hlt

theorem run_check {P : Program} {k : TypeId} (hk : P.underlying k = some .string) (b : Bool) (s : ByteArray) (w : World) : (Instr.checkKey b 10000 k (.string s)).run P w = .ok () w := by
  exact MapKept.run_checkKey (n := 9999) hk (by simp [MapKept.IsKey]) b

theorem MapHolds.look {P : Program} {t k e : TypeId} {i : TypeInfo} {z : Value} (ht : P.underlying t = some (.map k e)) (hk : P.underlying k = some .string) (he : P.info? e = some i) (hz : i.zero = some z)
    {w : World} {b : Nat} {M : ByteArray → Option Value} (h : MapHolds w b M) (s : ByteArray) :
    (Instr.lookup t (.map (some b)) (.string s) false).run P w = .ok ((M s).getD z) w := by
  obtain ⟨es, c, hb, hs, hM⟩ := h
  have h1 := findNow_str s es.toList 0 hs
  rw [← hM s]
  cases h2 : fnd s es.toList 0 with
  | none =>
    rw [h2] at h1
    simp [Instr.lookup, run_underlying ht, MapKept.run_getObj_map hb, run_check hk, Instr.findKey, run_underlying hk, h1, Result.andThen, zeroValue, typeInfo, he, hz]
  | some x =>
    rw [h2] at h1
    obtain ⟨j, v⟩ := x
    simp [Instr.lookup, run_underlying ht, MapKept.run_getObj_map hb, run_check hk, Instr.findKey, run_underlying hk, h1, Result.andThen]

theorem MapHolds.put {P : Program} {t k e : TypeId} (ht : P.underlying t = some (.map k e)) (hk : P.underlying k = some .string)
    {w : World} {b : Nat} {M : ByteArray → Option Value} (h : MapHolds w b M) (s : ByteArray) (hno : M s = none) (v : Value) :
    ∃ o : Obj, (Instr.mapUpdate t (.map (some b)) (.string s) v).run P w = .ok () (setBlock w b o) ∧ MapHolds (setBlock w b o) b (fun x => if x = s then some v else M x) := by
  have hlt := h.lt
  obtain ⟨es, c, hb, hs, hM⟩ := h
  have h1 := findNow_str s es.toList 0 hs
  have h2 : fnd s es.toList 0 = none := by
    have := hM s
    rw [hno] at this
    simpa using this
  rw [h2] at h1
  refine ⟨.map (es.push { key := .string s, val := v, born := c }) (c + 1), ?_, es.push { key := .string s, val := v, born := c }, c + 1, ?_, ?_, ?_⟩
  · simp [Instr.mapUpdate, run_underlying ht, MapKept.run_getObj_map hb, run_check hk, Instr.findKey, run_underlying hk, h1, MapKept.run_setObj_map _ hb, Result.andThen, setBlock]
  · exact heap_setBlock_same hb _
  · intro x hx
    simp at hx
    rcases hx with hx | rfl
    · exact hs x (by simpa using hx)
    · exact ⟨s, rfl⟩
  · intro x
    rw [Array.toList_push, fnd_push, hM x]
    by_cases e : x = s
    · subst e
      have e2 : (x == x) = true := (MapKept.bytes_beq x x).2 rfl
      simp [hno, e2]
    · have e2 : (x == s) = false := by
        rw [← Bool.not_eq_true, MapKept.bytes_beq]; exact e
      simp [e, e2]

theorem mapHolds_new (w : World) : MapHolds (w.alloc (.map #[] 0)) w.heap.size (fun _ => none) :=
  ⟨#[], 0, by show (w.heap.push _)[w.heap.size]? = _; simp, fun e he => by simp at he, fun s => rfl⟩
end Go.Proofs.Qxb6618426a
