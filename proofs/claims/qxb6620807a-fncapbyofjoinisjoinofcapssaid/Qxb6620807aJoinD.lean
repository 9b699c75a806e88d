import Derived.Test.Qxb6620807aMerge
import Derived.Deep.CutBlock
namespace Go.Proofs.Qxb6620807a
open Go.RowKit
set_option linter.unusedVariables false

/-- One run's place in memory: an ascending row above its bound. -/
structure RunAt (w : World) (u : Int) (a : Option Addr) (c : Nat) (X : List Int) : Prop where
  ok : RunOK u X
  row : RowAt w a X.length (fun j => .int .u64 (ix X j))
  len : X.length ≤ 16777216
  cap : X.length ≤ c
  cap2 : c ≤ 1099511627776
theorem RunAt.now {w w' : World} {u : Int} {a : Option Addr} {c : Nat} {X : List Int} (h : RunAt w u a c X) (hb : Below w.heap.size w w') : RunAt w' u a c X := ⟨h.ok, h.row.now hb, h.len, h.cap, h.cap2⟩

/-- 'append' with room to a row of the call's own, as one step of a region that draws its order. -/
theorem step_append_spare {P : Program} {ops : Array Oper} {o : Oper} {a : Act} {w : World} {K : Act → World → Prop} {Q : Exit → Act → World → Prop} {E : Prop}
    (hg : o.guard = none) (s x : Operand) (t : TypeId) (ho : o.op = Op.call { callee := Callee.builtin Builtin.append, args := #[s, x], argTypes := #[t, t] })
    (base : Nat) (e : TypeId) (i : TypeInfo) (size : Nat) (ht : P.underlying t = some (.slice e)) (hi : P.info? e = some i) (hsize : i.size = size)
    (g n cap : Nat) (xs : List Value) (hs : a.eval s = .slice (some ⟨g, 0, none⟩) n cap) (hown : w.ownsRow base e size (.slice (some ⟨g, 0, none⟩) n cap) n xs)
    (ad : Addr) (m c : Nat) (news : List Value) (hx : a.eval x = .slice (some ad) m c) (hl : news.length = m * size) (hnews : ∀ j u, news[j]? = some u → w.cell? (ad.add j) = some u) (h1 : ∀ u ∈ news, u.oneCell' = true)
    (hroom : n + m ≤ cap)
    (h : ∀ w', w'.ownsRow base e size (.slice (some ⟨g, 0, none⟩) (n + m) cap) (n + m) (xs ++ news) → w.grownBy w' (some g) → K (a.put o.dst (.slice (some ⟨g, 0, none⟩) (n + m) cap)) w') :
    if Region.wanted o (yielded ops a.tmps) = true then Oper.wp P o a w K Q else E := by
  have hw : Region.wanted o (yielded ops a.tmps) = true := by simp [Region.wanted, hg]
  rw [if_pos hw]
  exact wp_append_own_spare w s x t ho base e i size ht hi hsize g n cap xs hs hown ad m c news hx hl hnews h1 hroom h

theorem row_tail {w : World} {b off : Nat} {x : Int} {X : List Int} (hc : ∀ j, j < (x :: X).length → w.cell? ⟨b, off + j, none⟩ = some (.int .u64 (ix (x :: X) j))) : RowAt w (some ⟨b, off + 1, none⟩) X.length (fun j => .int .u64 (ix X j)) := by
  refine ⟨b, off + 1, fun _ => rfl, fun j hj => ?_⟩
  have := hc (j + 1) (by simp; omega)
  rw [show off + 1 + j = off + (j + 1) from by omega]
  simpa [ix] using this

theorem own_snoc {w : World} {B g cc : Nat} {Z : List Int} {x : Int} (h : w.ownsRow B 41 1 (.slice (some ⟨g, 0, none⟩) (Z.length + 1) cc) (Z.length + 1) (Z.map (Value.int .u64) ++ [.int .u64 x])) :
    w.ownsRow B 41 1 (.slice (some ⟨g, 0, none⟩) (Z ++ [x]).length cc) (Z ++ [x]).length ((Z ++ [x]).map (Value.int .u64)) := by simpa using h
theorem grown_on {w1 wr w' : World} {g : Nat} {o : Obj} {B : Nat} (hB : w1.heap.size = B) (h : Below w1.heap.size w1 wr) (hg : B ≤ g) {q : Nat} (k : ((wr.drewN q).alloc o).grownBy w' (some g)) : Below w1.heap.size w1 w' :=
  ((below_drewN h q).alloc h.size o).grown k (by rw [Go.Deep.nblk_alloc]; exact Nat.le_succ_of_le h.size) (fun x hx => by cases hx; omega)

theorem ix_some {Z : List Int} {j : Nat} (h : j < Z.length) : Z[j]? = some (ix Z j) := by rw [getD_get h, List.getElem?_eq_getElem h]

def lenV : Value → Nat
  | .slice _ n _ => n
  | _ => 0

/-- The three variables of run.join. -/
def W3 (w : World) (sx : ByteArray) (ux : Int) (ax : Option Addr) (nx cx : Nat) (sy : ByteArray) (uy : Int) (ay : Option Addr) (ny cy : Nat) : World :=
  ((w.alloc (.cells #[.string sx, .int .u64 ux, .slice ax nx cx] 54)).alloc (.cells #[.string sy, .int .u64 uy, .slice ay ny cy] 54)).alloc (.cells #[.string { data := #[] }, .int .u64 0, .slice none 0 0] 54)

theorem W3_size (w : World) (sx : ByteArray) (ux : Int) (ax : Option Addr) (nx cx : Nat) (sy : ByteArray) (uy : Int) (ay : Option Addr) (ny cy : Nat) : (W3 w sx ux ax nx cx sy uy ay ny cy).heap.size = w.heap.size + 3 := by
  unfold W3; rw [Go.Deep.nblk_alloc, Go.Deep.nblk_alloc, Go.Deep.nblk_alloc]
theorem W3_below (w : World) (sx : ByteArray) (ux : Int) (ax : Option Addr) (nx cx : Nat) (sy : ByteArray) (uy : Int) (ay : Option Addr) (ny cy : Nat) : Below w.heap.size w (W3 w sx ux ax nx cx sy uy ay ny cy) := by
  unfold W3
  exact (((Below.refl _ _).alloc (Nat.le_refl _) _).alloc (by rw [Go.Deep.nblk_alloc]; omega) _).alloc (by rw [Go.Deep.nblk_alloc, Go.Deep.nblk_alloc]; omega) _
theorem W3_trips (w : World) (sx : ByteArray) (ux : Int) (ax : Option Addr) (nx cx : Nat) (sy : ByteArray) (uy : Int) (ay : Option Addr) (ny cy : Nat) :
    Trip (W3 w sx ux ax nx cx sy uy ay ny cy) w.heap.size (.string sx) (.int .u64 ux) (.slice ax nx cx) ∧ Trip (W3 w sx ux ax nx cx sy uy ay ny cy) (w.heap.size + 1) (.string sy) (.int .u64 uy) (.slice ay ny cy) ∧
    Trip (W3 w sx ux ax nx cx sy uy ay ny cy) (w.heap.size + 2) (.string { data := #[] }) (.int .u64 0) (.slice none 0 0) := by
  unfold W3
  have T0 := trip w (.string sx) (.int .u64 ux) (.slice ax nx cx) 54
  generalize hw0 : w.alloc (.cells #[.string sx, .int .u64 ux, .slice ax nx cx] 54) = w0 at *
  have e0 : w0.heap.size = w.heap.size + 1 := by rw [← hw0, Go.Deep.nblk_alloc]
  have T1 := trip w0 (.string sy) (.int .u64 uy) (.slice ay ny cy) 54
  have b0 : Below w0.heap.size w0 (w0.alloc (.cells #[.string sy, .int .u64 uy, .slice ay ny cy] 54)) := (Below.refl _ _).alloc (Nat.le_refl _) _
  generalize hw1 : w0.alloc (.cells #[.string sy, .int .u64 uy, .slice ay ny cy] 54) = w1 at *
  have e1 : w1.heap.size = w.heap.size + 2 := by rw [← hw1, Go.Deep.nblk_alloc, e0]
  have T2 := trip w1 (.string { data := #[] }) (.int .u64 0) (.slice none 0 0) 54
  have b1 : Below w1.heap.size w1 (w1.alloc (.cells #[.string { data := #[] }, .int .u64 0, .slice none 0 0] 54)) := (Below.refl _ _).alloc (Nat.le_refl _) _
  refine ⟨(T0.on b0 (by omega)).on b1 (by omega), ?_, ?_⟩
  · rw [← e0]; exact T1.on b1 (by omega)
  · rw [← e1]; exact T2

/-- What run.join hands back. -/
def Joined (s : List UInt8) (u v : Int) (X Y : List Int) (w w' : World) (e : Ending) : Prop :=
  ∃ (sz : ByteArray) (uz : Int) (az : Option Addr) (cz : Nat) (Z : List Int), e = .returned (.agg #[.string sz, .int .u64 uz, .slice az Z.length cz]) ∧ sz.toList = s ∧ RunOK uz Z ∧ (∀ x, inR uz Z x ↔ inR u X x ∨ inR v Y x) ∧
    RowFrom w.heap.size w' az Z.length (fun j => .int .u64 (ix Z j)) ∧ Z.length ≤ cz ∧ cz ≤ 1099511627776 ∧ Z.length ≤ X.length + Y.length ∧ Below w.heap.size w w'

/-- run.join's contract. -/
def JoinRSpec : Prop := ∀ (s t : ByteArray) (u v : Int) (a b : Option Addr) (c d : Nat) (X Y : List Int) (w : World) (_ : s.toList = t.toList) (_ : RunAt w u a c X) (_ : RunAt w v b d Y),
    Calls Try.prog 32 #[.agg #[.string s, .int .u64 u, .slice a X.length c], .agg #[.string t, .int .u64 v, .slice b Y.length d]] w (fun e w' => Joined s.toList u v X Y w w' e)
end Go.Proofs.Qxb6620807a
