import Derived.Test.Qxb6618426aLeaf2
namespace Go.Proofs.Qxb6618426a
open Go.RowKit

/-- The grants as they lie in memory: a path (a slice of strings) and a set's number each. -/
def GrantsAt (w : World) (a : Option Addr) (G : Nat) (pa : Nat → Option Addr) (pn pc : Nat → Nat) (gs : Nat → Int) (ps : Nat → Nat → ByteArray) : Prop :=
  (∃ b off, (0 < G → a = some ⟨b, off, none⟩) ∧ ∀ i, i < G → w.cell? ⟨b, off + i * 2, none⟩ = some (.slice (pa i) (pn i) (pc i)) ∧ w.cell? ⟨b, off + i * 2 + 1, none⟩ = some (.int .i32 (gs i))) ∧
  ∀ i, i < G → RowAt w (pa i) (pn i) (fun j => .string (ps i j))

/-- A slice of slices of int32. -/
def ListsAt (w : World) (a : Option Addr) (E : Nat) (la : Nat → Option Addr) (ln lc : Nat → Nat) (lf : Nat → Nat → Int) : Prop :=
  RowAt w a E (fun i => .slice (la i) (ln i) (lc i)) ∧ ∀ i, i < E → RowAt w (la i) (ln i) (fun j => .int .i32 (lf i j))

/-- It hands back a bool; where that is true, p holds. -/
def Tells (p : Prop) (e : Ending) : Prop := ∃ r : Bool, e = .returned (.bool r) ∧ (r = true → p)
theorem Tells.no {p : Prop} : Tells p (.returned (.bool false)) := ⟨false, rfl, by simp⟩
theorem Tells.yes {p : Prop} (h : p) : Tells p (.returned (.bool true)) := ⟨true, rfl, fun _ => h⟩

structure Sizes (G : Nat) (pn : Nat → Nat) (E : Nat) (ln : Nat → Nat) (R Q : Nat) : Prop where
  g : G ≤ 1048576
  p : ∀ i, i < G → pn i ≤ 1048576
  e : E ≤ 1048576
  l : ∀ i, i < E → ln i ≤ 1048576
  r : R ≤ 1048576
  q : Q ≤ 1048576

set_option maxHeartbeats 1000000 in
set_option maxRecDepth 100000 in
theorem bytes_any (ga ea ra qa : Option Addr) (G gc E ec R rc Q qc : Nat) (pa la : Nat → Option Addr) (pn pc ln lc : Nat → Nat) (gs : Nat → Int) (ps : Nat → Nat → ByteArray) (lf : Nat → Nat → Int) (qs : Nat → ByteArray)
    (w : World) (hg : GrantsAt w ga G pa pn pc gs ps) (he : ListsAt w ea E la ln lc lf) (hq : RowAt w qa Q (fun j => .string (qs j)))  :
    Calls Try.prog 5 #[.slice ga G gc, .slice ea E ec, .slice ra R rc, .slice qa Q qc] w fun e w' => Tells (Sizes G pn E ln R Q) e ∧ w' = w := by
  obtain ⟨⟨gb, go, hga, hgc⟩, hgp⟩ := hg
  obtain ⟨⟨eb, eo, hea, hec⟩, hel⟩ := he
  obtain ⟨qb, qo, hqa, hqc⟩ := hq
  by_cases hG : G ≤ 1048576
  case neg =>
    go_enter Try.func5, Try.ntmps5
    go_wp2
    go_ret
    exact ⟨Tells.no, rfl⟩
  go_enter Try.func5, Try.ntmps5
  go_wp2
  go_loop [9, 10] (fun z i => ∃ (x : Nat) (s : Int), x ≤ G ∧ i = .int .i64 x ∧ z = .int .i64 s ∧ 0 ≤ s ∧ s ≤ 1048576 ∧ Hid (∀ i, i < x → pn i ≤ 1048576)) (fun _ i => G - (intOf i).toNat)
  case atStart => exact ⟨0, G, by omega, rfl, rfl, by omega, by omega, by intro i hi; omega⟩
  case round =>
    obtain ⟨x, s, hx, rfl, rfl, hs0, hs1, HP⟩ := hrel
    by_cases hlt : x < G
    · obtain rfl := hga (by omega)
      have c1 := (hgc x hlt).1
      obtain ⟨pb, po, hpa, hpc⟩ := hgp x hlt
      clear hgc hgp hec hel hqc
      by_cases hP : pn x ≤ 1048576
      · have HP' : Hid (∀ i, i < x + 1 → pn i ≤ 1048576) := fun i hi => by
          by_cases e : i = x
          · subst e; exact hP
          · exact HP.out i (by omega)
        go_wp2
        · go_ret
          exact ⟨Tells.no, rfl⟩
        · go_loop [9, 11] (fun z i => ∃ (y : Nat) (s : Int), y ≤ pn x ∧ i = .int .i64 y ∧ z = .int .i64 s ∧ 0 ≤ s ∧ s ≤ 1048576) (fun _ i => pn x - (intOf i).toNat)
          case atStart => exact ⟨0, _, by omega, rfl, rfl, by omega, by omega⟩
          case round =>
            obtain ⟨y, t, hy, rfl, rfl, ht0, ht1⟩ := hrel
            by_cases hyl : y < pn x
            · have hpa' := hpa (by omega)
              have c2 : w.cell? ⟨pb, po + y, none⟩ = some (.string (ps x y)) := hpc y hyl
              clear hpc hpa
              go_wp2
              · go_ret
                exact ⟨Tells.no, rfl⟩
              · go_ret
                exact ⟨Tells.no, rfl⟩
              · go_round
                case rel => exact ⟨y + 1, _, by omega, by go_num, rfl, by omega, by omega⟩
                case measure => simp only [intOf]; omega
            · clear hpc hpa
              go_wp2
              go_round
              case rel => exact ⟨x + 1, _, by omega, by go_num, rfl, by omega, by omega, HP'⟩
              case measure => simp only [intOf]; omega
      · go_wp2
        go_ret
        exact ⟨Tells.no, rfl⟩
    · have HP' : Hid (∀ i, i < G → pn i ≤ 1048576) := fun i hi => HP.out i (by omega)
      have hge : ¬ (x : Int) < (G : Int) := by omega
      clear hgc hgp HP hx
      go_wp2
      · go_ret
        exact ⟨Tells.no, rfl⟩
      · go_ret
        exact ⟨Tells.no, rfl⟩
      have hE : (E : Int) ≤ 1048576 := by assumption
      clear hlt hge
      go_loop [9, 12] (fun z i => ∃ (x : Nat) (s : Int), x ≤ E ∧ i = .int .i64 x ∧ z = .int .i64 s ∧ 0 ≤ s ∧ s ≤ 1048576 ∧ Hid (∀ i, i < x → ln i ≤ 1048576)) (fun _ i => E - (intOf i).toNat)
      case atStart => exact ⟨0, _, by omega, rfl, rfl, by omega, by omega, by intro i hi; omega⟩
      case round =>
        obtain ⟨x, s, hx, rfl, rfl, hs0, hs1, HL⟩ := hrel
        by_cases hlt : x < E
        · obtain rfl := hea (by omega)
          have c1 := hec x hlt
          clear hec hel hqc
          by_cases hL : ln x ≤ 1048576
          · have HL' : Hid (∀ i, i < x + 1 → ln i ≤ 1048576) := fun i hi => by
              by_cases e : i = x
              · subst e; exact hL
              · exact HL.out i (by omega)
            go_wp2
            · go_ret
              exact ⟨Tells.no, rfl⟩
            · go_round
              case rel => exact ⟨x + 1, _, by omega, by go_num, rfl, by omega, by omega, HL'⟩
              case measure => simp only [intOf]; omega
          · go_wp2
            go_ret
            exact ⟨Tells.no, rfl⟩
        · have HL' : Hid (∀ i, i < E → ln i ≤ 1048576) := fun i hi => HL.out i (by omega)
          have hge : ¬ (x : Int) < (E : Int) := by omega
          clear hec hel HL hx
          by_cases hR : R ≤ 1048576
          case neg =>
            go_wp2
            go_ret
            exact ⟨Tells.no, rfl⟩
          by_cases hQ : Q ≤ 1048576
          case neg =>
            go_wp2
            all_goals go_ret
            all_goals exact ⟨Tells.no, rfl⟩
          go_wp2
          · go_ret
            exact ⟨Tells.no, rfl⟩
          · go_ret
            exact ⟨Tells.no, rfl⟩
          have FIN : Hid (Sizes G pn E ln R Q) := ⟨hG, HP'.out, by omega, HL'.out, hR, hQ⟩
          clear hlt hge
          go_loop [9, 13] (fun z i => ∃ (x : Nat) (s : Int), x ≤ Q ∧ i = .int .i64 x ∧ z = .int .i64 s ∧ 0 ≤ s ∧ s ≤ 1048576) (fun _ i => Q - (intOf i).toNat)
          case atStart => exact ⟨0, _, by omega, rfl, rfl, by omega, by omega⟩
          case round =>
            obtain ⟨x, s, hx, rfl, rfl, hs0, hs1⟩ := hrel
            by_cases hlt : x < Q
            · obtain rfl := hqa (by omega)
              have c1 := hqc x hlt
              clear hqc
              go_wp2
              · go_ret
                exact ⟨Tells.no, rfl⟩
              · go_ret
                exact ⟨Tells.no, rfl⟩
              · go_round
                case rel => exact ⟨x + 1, _, by omega, by go_num, rfl, by omega, by omega⟩
                case measure => simp only [intOf]; omega
            · clear hqc
              go_wp2
              go_ret
              exact ⟨Tells.yes FIN.out, rfl⟩
end Go.Proofs.Qxb6618426a
