import Derived.Test.Qxb6618426aNode
namespace Go.Proofs.Qxb6618426a
open Go.RowKit Go.ChangeMaps

/-- A path of segments. -/
abbrev Pth := List ByteArray
def star : ByteArray := ⟨#[42]⟩

/-- Where the path p stands among the paths of the nodes; the list's length where it does not. -/
def ix (D : List Pth) (p : Pth) : Nat := D.findIdx (fun q => decide (q = p))
theorem ix_lt {D : List Pth} {p : Pth} : ix D p < D.length ↔ p ∈ D := by
  unfold ix; rw [List.findIdx_lt_length]; simp
theorem ix_get {D : List Pth} {p : Pth} (h : ix D p < D.length) : D[ix D p] = p := by
  have h1 := List.findIdx_getElem (xs := D) (p := fun q => decide (q = p)) (w := h)
  exact of_decide_eq_true h1
theorem nodup_inj {D : List Pth} (hn : D.Nodup) {i j : Nat} (hi : i < D.length) (hj : j < D.length) (h : D[i] = D[j]) : i = j := by
  have hp := List.pairwise_iff_getElem.1 hn
  rcases Nat.lt_trichotomy i j with hlt | he | hlt
  · exact absurd h (hp i j hi hj hlt)
  · exact he
  · exact absurd h.symm (hp j i hj hi hlt)
theorem ix_at {D : List Pth} (hn : D.Nodup) {i : Nat} (hi : i < D.length) : ix D D[i] = i := by
  have h : ix D D[i] < D.length := ix_lt.2 (List.getElem_mem hi)
  have h2 := ix_get h
  exact nodup_inj hn h hi h2
theorem ix_push {D : List Pth} {p q : Pth} (h : p ∈ D) : ix (D ++ [q]) p = ix D p := by
  unfold ix; rw [List.findIdx_append, if_pos]; exact ix_lt.2 h
theorem ix_new {D : List Pth} {q : Pth} (h : q ∉ D) : ix (D ++ [q]) q = D.length := by
  have h1 : ¬ List.findIdx (fun x => decide (x = q)) D < D.length := fun hh => h (ix_lt.1 hh)
  unfold ix
  rw [List.findIdx_append, if_neg h1]
  simp

/-- The pointer to the node of path p, if there is one. -/
def ptr? (N : Nat) (D : List Pth) (p : Pth) : Option Value := if ix D p < D.length then some (.pointer (some ⟨N + 2 * ix D p + 1, 0, none⟩)) else none
def ptr (N : Nat) (D : List Pth) (p : Pth) : Value := (ptr? N D p).getD (.pointer none)

theorem ptr?_push_old {N : Nat} {D : List Pth} {p q : Pth} (hne : p ≠ q) : ptr? N (D ++ [q]) p = ptr? N D p := by
  unfold ptr?
  by_cases h : p ∈ D
  · rw [ix_push h, if_pos (ix_lt.2 h), if_pos (by have := ix_lt.2 h; simp; omega)]
  · have h1 : ¬ ix D p < D.length := fun hh => h (ix_lt.1 hh)
    have h2 : ¬ ix (D ++ [q]) p < (D ++ [q]).length := fun hh => by
      have := ix_lt.1 hh
      simp at this
      rcases this with h3 | h3
      · exact h h3
      · exact hne h3
    rw [if_neg h1, if_neg h2]
theorem ptr?_push_new {N : Nat} {D : List Pth} {q : Pth} (h : q ∉ D) : ptr? N (D ++ [q]) q = some (.pointer (some ⟨N + 2 * D.length + 1, 0, none⟩)) := by
  unfold ptr?
  rw [ix_new h, if_pos (by simp)]
theorem ptr?_none {N : Nat} {D : List Pth} {p : Pth} (h : p ∉ D) : ptr? N D p = none := by
  unfold ptr?; rw [if_neg (fun hh => h (ix_lt.1 hh))]
theorem ptr?_at {N : Nat} {D : List Pth} (hn : D.Nodup) {i : Nat} (hi : i < D.length) : ptr? N D D[i] = some (.pointer (some ⟨N + 2 * i + 1, 0, none⟩)) := by
  unfold ptr?; rw [ix_at hn hi, if_pos hi]

/-- What the four cells of node i hold. -/
def nodeF (N : Nat) (D : List Pth) (E : Nat → Int) (i : Nat) : Nat → Value
  | 0 => .map (some (N + 2 * i))
  | 1 => ptr N D (D.getD i [] ++ [star])
  | 2 => .int .i32 (E i)
  | _ => .int .i32 0
def litF (N : Nat) (D : List Pth) (i : Nat) (s : ByteArray) : Option Value := if s = star then none else ptr? N D (D.getD i [] ++ [s])

/-- THE TREE IN MEMORY: node i, of path D[i], lies at block N + 2i + 1, its map at N + 2i. -/
structure Tree (w : World) (N : Nat) (D : List Pth) (E : Nat → Int) : Prop where
  node : ∀ i, i < D.length → w.rowIs (N + 2 * i + 1) 60 4 (nodeF N D E i)
  lits : ∀ i, i < D.length → MapHolds w (N + 2 * i) (litF N D i)

/-- The paths of a tree's nodes: each once, each but the root's behind its parent's. -/
structure Paths (D : List Pth) : Prop where
  nd : D.Nodup
  pc : ∀ p s, p ++ [s] ∈ D → p ∈ D
  rt : D[0]? = some []

theorem Tree.below {w w' : World} {N : Nat} {D : List Pth} {E : Nat → Int} (h : Tree w N D E) (hb : Below w.heap.size w w') : Tree w' N D E :=
  ⟨fun i hi => (h.node i hi).of_block (hb.block _ (h.node i hi).lt), fun i hi => (h.lits i hi).of_block (hb.block _ (h.lits i hi).lt)⟩

theorem paths_push {D : List Pth} (h : Paths D) {p : Pth} (hp : p ∈ D) {s : ByteArray} (hn : p ++ [s] ∉ D) : Paths (D ++ [p ++ [s]]) := by
  refine ⟨?_, ?_, ?_⟩
  · rw [List.nodup_append]
    refine ⟨h.nd, by simp, ?_⟩
    intro a ha b hb e
    simp at hb
    subst hb; subst e
    exact hn ha
  · intro q t hq
    simp only [List.mem_append, List.mem_singleton] at hq ⊢
    rcases hq with hq | hq
    · exact Or.inl (h.pc q t hq)
    · have := List.append_inj' hq rfl
      rw [this.1]; exact Or.inl hp
  · have := h.rt
    cases D with
    | nil => simp at this
    | cons a D => simpa using this

theorem getD_push {D : List Pth} {q : Pth} {i : Nat} (hi : i < D.length) : (D ++ [q]).getD i [] = D.getD i [] := by
  simp [List.getD, List.getElem?_append_left hi]

theorem app_inj {p q : Pth} {s t : ByteArray} (h : p ++ [s] = q ++ [t]) : p = q ∧ s = t := by
  have := List.append_inj' h rfl
  exact ⟨this.1, by simpa using this.2⟩

/-- The other nodes' pointers behind a new node. -/
theorem nodeF_push_other {N : Nat} {D : List Pth} {E : Nat → Int} {p : Pth} {s : ByteArray} {i : Nat} (hi : i < D.length) (hne : ¬ (D.getD i [] = p ∧ s = star)) :
    nodeF N (D ++ [p ++ [s]]) E i = nodeF N D E i := by
  funext j
  unfold nodeF
  split
  · rfl
  · rw [getD_push hi]
    unfold ptr
    rw [ptr?_push_old (fun e => hne (by have := app_inj e; exact ⟨this.1, this.2.symm⟩))]
  · rfl
  · rfl

theorem litF_push_other {N : Nat} {D : List Pth} {p : Pth} {s : ByteArray} {i : Nat} (hi : i < D.length) (hne : ¬ (D.getD i [] = p ∧ s ≠ star)) :
    litF N (D ++ [p ++ [s]]) i = litF N D i := by
  funext t
  unfold litF
  by_cases e : t = star
  · rw [if_pos e, if_pos e]
  · rw [if_neg e, if_neg e, getD_push hi, ptr?_push_old (fun h => hne (by have := app_inj h; exact ⟨this.1, fun hh => e (this.2.trans hh)⟩))]

theorem getD_inj {D : List Pth} (hn : D.Nodup) {i j : Nat} (hi : i < D.length) (hj : j < D.length) (h : D.getD i [] = D.getD j []) : i = j := by
  simp only [List.getD, List.getElem?_eq_getElem hi, List.getElem?_eq_getElem hj, Option.getD_some] at h
  exact nodup_inj hn hi hj h

theorem getD_mem {D : List Pth} {i : Nat} (hi : i < D.length) : D.getD i [] ∈ D := by
  simp [List.getD, List.getElem?_eq_getElem hi]

/-- The world behind ZZNewNode. -/
def newW (w : World) : World := (w.alloc (.map #[] 0)).alloc (.cells #[.map (some w.heap.size), .pointer none, .int .i32 0, .int .i32 0] 60)
theorem newW_size (w : World) : (newW w).heap.size = w.heap.size + 2 := by simp [newW]
theorem newW_old (w : World) (k : Nat) (h : k < w.heap.size) : (newW w).heap[k]? = w.heap[k]? := by
  unfold newW
  rw [Below.heap_alloc _ _ _ (by simp; omega), Below.heap_alloc _ _ _ h]

/-- THE NEW NODE ITSELF, as ZZNewNode lays it, is the last node of the longer list. -/
theorem new_node {w : World} {N : Nat} {D : List Pth} {E : Nat → Int} {q : Pth} (hno : ∀ t, q ++ [t] ∉ D ++ [q]) (hs : w.heap.size = N + 2 * D.length) (hE : E D.length = 0) :
    (newW w).rowIs (N + 2 * D.length + 1) 60 4 (nodeF N (D ++ [q]) E D.length) ∧ MapHolds (newW w) (N + 2 * D.length) (litF N (D ++ [q]) D.length) := by
  have hg : (D ++ [q]).getD D.length [] = q := by simp [List.getD]
  constructor
  · have h1 := World.rowIs_alloc (w.alloc (.map #[] 0)) #[.map (some w.heap.size), .pointer none, .int .i32 0, .int .i32 0] 60 (nodeF N (D ++ [q]) E D.length) (by
      intro i hi
      match i, hi with
      | 0, _ => simp [nodeF, hs]
      | 1, _ => simp only [nodeF, hg, ptr, ptr?_none (hno star)]; rfl
      | 2, _ => simp [nodeF, hE]
      | 3, _ => simp [nodeF])
    have hsz : (w.alloc (.map #[] 0)).heap.size = N + 2 * D.length + 1 := by simp [hs]
    rw [hsz] at h1
    exact h1
  · have h2 := mapHolds_new w
    rw [hs] at h2
    have h3 : (fun _ => none) = litF N (D ++ [q]) D.length := by
      funext t
      unfold litF
      rw [hg, ptr?_none (hno t)]
      simp
    rw [← h3]
    exact h2.of_block (Below.heap_alloc _ _ _ (by simp [hs]))

theorem no_ext {D : List Pth} (hp : Paths D) {p : Pth} {s : ByteArray} (hn : p ++ [s] ∉ D) : ∀ t, (p ++ [s]) ++ [t] ∉ D ++ [p ++ [s]] := by
  intro t hh
  simp only [List.mem_append, List.mem_singleton] at hh
  rcases hh with hh | hh
  · exact hn (hp.pc _ _ hh)
  · have := congrArg List.length hh; simp at this

/-- THE ROOT ALONE. -/
theorem tree_root (w : World) : Tree (newW w) w.heap.size [[]] (fun _ => 0) ∧ Paths [[]] := by
  have h := new_node (w := w) (N := w.heap.size) (D := []) (E := fun _ => 0) (q := []) (by intro t; simp) (by simp) rfl
  refine ⟨⟨fun i hi => ?_, fun i hi => ?_⟩, ⟨by simp, by intro p s h; simp at h, rfl⟩⟩
  · have : i = 0 := by simpa using hi
    subst this; simpa using h.1
  · have : i = 0 := by simpa using hi
    subst this; simpa using h.2

theorem len_push (D : List Pth) (q : Pth) : (D ++ [q]).length = D.length + 1 := by simp

/-- A NEW WILDCARD CHILD of node i. -/
theorem tree_wild {w : World} {N : Nat} {D : List Pth} {E : Nat → Int} (h : Tree w N D E) (hp : Paths D) (hs : w.heap.size = N + 2 * D.length) (hE : E D.length = 0) {i : Nat} (hi : i < D.length)
    (hn : D.getD i [] ++ [star] ∉ D) :
    Tree ((newW w).setCell ⟨N + 2 * i + 1, 1, none⟩ (.pointer (some ⟨N + 2 * D.length + 1, 0, none⟩))) N (D ++ [D.getD i [] ++ [star]]) E := by
  have hnew := new_node (w := w) (E := E) (no_ext hp hn) hs hE
  refine ⟨fun j hj => ?_, fun j hj => ?_⟩
  · rw [len_push] at hj
    by_cases e : j = D.length
    · subst e; exact hnew.1.setOther (by simp only; omega) _
    · have hj' : j < D.length := by omega
      have h1 := (h.node j hj').of_block (newW_old w _ (h.node j hj').lt)
      by_cases e2 : j = i
      · subst e2
        refine (h1.set 1 _).congr (fun k hk => ?_)
        match k, hk with
        | 0, _ => simp [nodeF]
        | 1, _ => simp only [if_true, nodeF, getD_push hj', ptr]; rw [ptr?_push_new hn]; rfl
        | 2, _ => simp [nodeF]
        | 3, _ => simp [nodeF]
      · rw [nodeF_push_other hj' (fun hh => e2 (getD_inj hp.nd hj' hi hh.1))]
        exact h1.setOther (by simp only; omega) _
  · rw [len_push] at hj
    have hm : ∀ b, b ≠ N + 2 * i + 1 → ((newW w).setCell ⟨N + 2 * i + 1, 1, none⟩ (.pointer (some ⟨N + 2 * D.length + 1, 0, none⟩))).heap[b]? = (newW w).heap[b]? := fun b hb => Below.heap_setCell _ _ _ _ hb
    by_cases e : j = D.length
    · subst e; exact hnew.2.of_block (hm _ (by omega))
    · have hj' : j < D.length := by omega
      rw [litF_push_other hj' (fun hh => hh.2 rfl)]
      exact ((h.lits j hj').of_block (newW_old w _ (h.lits j hj').lt)).of_block (hm _ (by omega))

theorem setBlock_heap_other {w : World} {b : Nat} (o : Obj) {i : Nat} (h : i ≠ b) : (setBlock w b o).heap[i]? = w.heap[i]? := by
  unfold setBlock
  simp only [Array.getElem?_setIfInBounds]
  rw [if_neg (fun e => h e.symm)]

/-- A NEW LITERAL CHILD of node i. -/
theorem tree_lit {w : World} {N : Nat} {D : List Pth} {E : Nat → Int} (h : Tree w N D E) (hp : Paths D) (hs : w.heap.size = N + 2 * D.length) (hE : E D.length = 0) {i : Nat} (hi : i < D.length)
    {s : ByteArray} (hst : s ≠ star) (hn : D.getD i [] ++ [s] ∉ D) {o : Obj}
    (hm : MapHolds (setBlock (newW w) (N + 2 * i) o) (N + 2 * i) (fun x => if x = s then some (.pointer (some ⟨N + 2 * D.length + 1, 0, none⟩)) else litF N D i x)) :
    Tree (setBlock (newW w) (N + 2 * i) o) N (D ++ [D.getD i [] ++ [s]]) E := by
  have hnew := new_node (w := w) (E := E) (no_ext hp hn) hs hE
  refine ⟨fun j hj => ?_, fun j hj => ?_⟩
  · rw [len_push] at hj
    by_cases e : j = D.length
    · subst e; exact hnew.1.of_block (setBlock_heap_other _ (by omega))
    · have hj' : j < D.length := by omega
      rw [nodeF_push_other hj' (fun hh => hst hh.2)]
      exact ((h.node j hj').of_block (newW_old w _ (h.node j hj').lt)).of_block (setBlock_heap_other _ (by omega))
  · rw [len_push] at hj
    by_cases e : j = D.length
    · subst e; exact hnew.2.of_block (setBlock_heap_other _ (by omega))
    · have hj' : j < D.length := by omega
      by_cases e2 : j = i
      · subst e2
        have he : litF N (D ++ [D.getD j [] ++ [s]]) j = (fun x => if x = s then some (.pointer (some ⟨N + 2 * D.length + 1, 0, none⟩)) else litF N D j x) := by
          funext x
          unfold litF
          by_cases e3 : x = s
          · subst e3
            rw [if_neg hst, if_pos rfl, getD_push hj', ptr?_push_new hn]
          · rw [if_neg e3, getD_push hj', ptr?_push_old (fun hh => e3 (app_inj hh).2)]
        rw [he]; exact hm
      · rw [litF_push_other hj' (fun hh => e2 (getD_inj hp.nd hj' hi hh.1))]
        exact ((h.lits j hj').of_block (newW_old w _ (h.lits j hj').lt)).of_block (setBlock_heap_other _ (by omega))

/-- A NEW END at node i. -/
theorem tree_end {w : World} {N : Nat} {D : List Pth} {E : Nat → Int} (h : Tree w N D E) {i : Nat} (x : Int) :
    Tree (w.setCell ⟨N + 2 * i + 1, 2, none⟩ (.int .i32 x)) N D (fun j => if j = i then x else E j) := by
  refine ⟨fun j hj => ?_, fun j hj => ?_⟩
  · by_cases e : j = i
    · subst e
      refine ((h.node j hj).set 2 _).congr (fun k hk => ?_)
      match k, hk with
      | 0, _ => simp [nodeF]
      | 1, _ => simp [nodeF]
      | 2, _ => simp [nodeF]
      | 3, _ => simp [nodeF]
    · refine ((h.node j hj).setOther (by simp only; omega) _).congr (fun k hk => ?_)
      match k, hk with
      | 0, _ => simp [nodeF]
      | 1, _ => simp [nodeF]
      | 2, _ => simp [nodeF, e]
      | 3, _ => simp [nodeF]
  · exact (h.lits j hj).of_block (Below.heap_setCell _ _ _ _ (by simp only; omega))
end Go.Proofs.Qxb6618426a
