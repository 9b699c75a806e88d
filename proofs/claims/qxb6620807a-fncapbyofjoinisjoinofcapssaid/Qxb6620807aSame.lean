import Derived.Test.Qxb6620807aUnion
namespace Go.Proofs.Qxb6620807a
open Go.RowKit
set_option linter.unusedVariables false

theorem boxes2 (w : World) (x y z x' y' z' : Value) : ∃ w1, (w.alloc (.cells #[x, y, z] 30)).alloc (.cells #[x', y', z'] 30) = w1 ∧ w1.heap.size = w.heap.size + 2 ∧ Below w.heap.size w w1 ∧ Trip w1 w.heap.size x y z ∧ Trip w1 (w.heap.size + 1) x' y' z' := by
  obtain ⟨wa, ea, sa, ba, ta⟩ := box_step w x y z 30
  obtain ⟨wb, eb, sb, bb, tb⟩ := box_step wa x' y' z' 30
  rw [sa] at tb
  exact ⟨wb, by rw [ea, eb], by omega, Below.step ba bb, ta.on bb (by omega), tb⟩

set_option maxRecDepth 100000 in
set_option maxHeartbeats 8000000 in
theorem same_f (a1 a2 a3 a1' a2' a3' : Option Addr) (n c1 c2 c3 c1' c2' c3' : Nat) (S : Nat → ByteArray) (U : Nat → Int) (A A' : Nat → Option Addr) (L C C' : Nat → Nat) (F : Nat → Nat → Int) (w : World)
    (hn : n ≤ 16777216) (hl : ∀ j, j < n → L j ≤ 16777216) (h : Rows3 w a1 a2 a3 n S U A L C F) (h' : Rows3 w a1' a2' a3' n S U A' L C' F) :
    Calls Try.prog 18 #[.agg #[.slice a1 n c1, .slice a2 n c2, .slice a3 n c3], .agg #[.slice a1' n c1', .slice a2' n c2', .slice a3' n c3']] w (fun e w' => Said true w w' e) := by
  obtain ⟨w1, hw1, hsz1, hb1, T1, T2⟩ := boxes2 w (.slice a1 n c1) (.slice a2 n c2) (.slice a3 n c3) (.slice a1' n c1') (.slice a2' n c2') (.slice a3' n c3')
  have R1 := h.now hb1
  have R2 := h'.now hb1
  have HL : Hid (∀ j, j < n → L j ≤ 16777216) := hl
  have HB1 : Hid (Below w.heap.size w w1) := hb1
  clear hl h h' hsz1 hb1
  obtain ⟨x0, x1, x2, xf, xl⟩ := T1
  obtain ⟨y0, y1, y2, yf, yl⟩ := T2
  obtain ⟨bs, os, es, rs⟩ := R1.s
  obtain ⟨bs', os', es', rs'⟩ := R2.s
  obtain ⟨bu, ou, eu, ru⟩ := R1.u
  obtain ⟨bu', ou', eu', ru'⟩ := R2.u
  obtain ⟨bb, ob, eb, rb⟩ := R1.b
  obtain ⟨bb', ob', eb', rb'⟩ := R2.b
  have RF := R1.f
  have RF' := R2.f
  have HS : Hid ((∀ j, j < n → w1.cell? ⟨bs, os + j, none⟩ = some (.string (S j))) ∧ ∀ j, j < n → w1.cell? ⟨bs', os' + j, none⟩ = some (.string (S j))) := ⟨rs, rs'⟩
  have HU : Hid ((∀ j, j < n → w1.cell? ⟨bu, ou + j, none⟩ = some (.int .u64 (U j))) ∧ ∀ j, j < n → w1.cell? ⟨bu', ou' + j, none⟩ = some (.int .u64 (U j))) := ⟨ru, ru'⟩
  have HB : Hid ((∀ j, j < n → w1.cell? ⟨bb, ob + j, none⟩ = some (.slice (A j) (L j) (C j))) ∧ ∀ j, j < n → w1.cell? ⟨bb', ob' + j, none⟩ = some (.slice (A' j) (L j) (C' j))) := ⟨rb, rb'⟩
  have HF : Hid ((∀ j, j < n → RowAt w1 (A j) (L j) (fun k => .int .u64 (F j k))) ∧ ∀ j, j < n → RowAt w1 (A' j) (L j) (fun k => .int .u64 (F j k))) := ⟨RF, RF'⟩
  clear R1 R2 rs rs' ru ru' rb rb' RF RF' xf yf
  go_enter Try.func18, Try.ntmps18
  go_wp2_with fail
  clear hw1
  go_loopw [5] (fun i wr => ∃ k : Nat, k ≤ n ∧ i = .int .i64 k ∧ ∃ q, wr = w1.drewN q) (fun i _ => n - (intOf i).toNat)
  case atStart => exact ⟨0, by omega, rfl, 0, rfl⟩
  case round =>
    obtain ⟨k, hk, rfl, q, rfl⟩ := hrel
    by_cases hlt : k < n
    · obtain rfl := es (by omega)
      obtain rfl := es' (by omega)
      have q1 := HS.out.1 k hlt
      have q2 := HS.out.2 k hlt
      have lt' : (k : Int) < n := by omega
      go_wp2_with fail
      go_quiet (fail)
      go_wp2_with fail
      go_roundw
      case rel => exact ⟨k + 1, by omega, by go_num, _, rfl⟩
      case measure => simp only [intOf]; omega
    · obtain rfl : n = k := by omega
      go_wp2_with fail
      go_loopw [6] (fun i wr => ∃ k : Nat, k ≤ n ∧ i = .int .i64 k ∧ ∃ q, wr = w1.drewN q) (fun i _ => n - (intOf i).toNat)
      case atStart => exact ⟨0, by omega, rfl, q, rfl⟩
      case round =>
        clear hlt hk
        obtain ⟨k, hk, rfl, q, rfl⟩ := hrel
        by_cases hlt : k < n
        · obtain rfl := eu (by omega)
          obtain rfl := eu' (by omega)
          have q1 := HU.out.1 k hlt
          have q2 := HU.out.2 k hlt
          have lt' : (k : Int) < n := by omega
          go_wp2_with fail
          go_quiet (fail)
          go_wp2_with fail
          go_roundw
          case rel => exact ⟨k + 1, by omega, by go_num, _, rfl⟩
          case measure => simp only [intOf]; omega
        · obtain rfl : n = k := by omega
          go_wp2_with fail
          go_loopw [7] (fun i wr => ∃ k : Nat, k ≤ n ∧ i = .int .i64 k ∧ ∃ q, wr = w1.drewN q) (fun i _ => n - (intOf i).toNat)
          case atStart => exact ⟨0, by omega, rfl, q, rfl⟩
          case round =>
            clear hlt hk
            obtain ⟨k, hk, rfl, q, rfl⟩ := hrel
            by_cases hlt : k < n
            · obtain rfl := eb (by omega)
              obtain rfl := eb' (by omega)
              have q1 := HB.out.1 k hlt
              have q2 := HB.out.2 k hlt
              have lt' : (k : Int) < n := by omega
              have hLk := HL.out k hlt
              obtain ⟨ba, oa, ea, ra⟩ := HF.out.1 k hlt
              obtain ⟨ba', oa', ea', ra'⟩ := HF.out.2 k hlt
              generalize hAA : A k = aa at *
              generalize hAB : A' k = aa' at *
              generalize hLL : L k = l at *
              generalize hFF : F k = f at *
              generalize hCC : C k = cc at *
              generalize hCD : C' k = cc' at *
              have HR : Hid ((∀ j, j < l → w1.cell? ⟨ba, oa + j, none⟩ = some (.int .u64 (f j))) ∧ ∀ j, j < l → w1.cell? ⟨ba', oa' + j, none⟩ = some (.int .u64 (f j))) := ⟨ra, ra'⟩
              clear ra ra' hAA hAB hLL hFF hCC hCD
              go_wp2_with fail
              go_quiet (fail)
              go_wp2_with fail
              go_loopw [8] (fun i wr => ∃ t : Nat, t ≤ l ∧ i = .int .i64 t ∧ ∃ q, wr = w1.drewN q) (fun i _ => l - (intOf i).toNat)
              case atStart => exact ⟨0, by omega, rfl, _, World.drewN_drewN ..⟩
              case round =>
                obtain ⟨t, ht, rfl, q, rfl⟩ := hrel
                by_cases htl : t < l
                · obtain rfl := ea (by omega)
                  obtain rfl := ea' (by omega)
                  have q3 := HR.out.1 t htl
                  have q4 := HR.out.2 t htl
                  have lt2 : (t : Int) < l := by omega
                  go_wp2_with fail
                  go_quiet (fail)
                  go_wp2_with fail
                  go_roundw
                  case rel => exact ⟨t + 1, by omega, by go_num, _, rfl⟩
                  case measure => simp only [intOf]; omega
                · obtain rfl : l = t := by omega
                  go_wp2_with fail
                  go_roundw
                  case rel => exact ⟨k + 1, by omega, by go_num, _, rfl⟩
                  case measure => simp only [intOf]; omega
            · obtain rfl : n = k := by omega
              go_wp2_with fail
              go_ret
              exact ⟨rfl, below_drewN HB1.out _⟩
end Go.Proofs.Qxb6620807a
