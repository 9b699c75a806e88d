import Derived.Test.Qxb6620807aSize8
namespace Go.Proofs.Qxb6620807a
open Go.RowKit
set_option linter.unusedVariables false

set_option maxRecDepth 100000 in
set_option maxHeartbeats 8000000 in
theorem size22 (a01 a02 a03 : Option Addr) (n0 n02 n03 c01 c02 c03 : Nat) (S0 : Nat → ByteArray) (A0 : Nat → Option Addr) (L0 C0 : Nat → Nat) (a11 a12 a13 : Option Addr) (n1 n12 n13 c11 c12 c13 : Nat) (S1 : Nat → ByteArray) (A1 : Nat → Option Addr) (L1 C1 : Nat → Nat) (a21 a22 a23 : Option Addr) (n2 n22 n23 c21 c22 c23 : Nat) (S2 : Nat → ByteArray) (A2 : Nat → Option Addr) (L2 C2 : Nat → Nat) (w : World) (hs0 : RowAt w a01 n0 (fun j => .string (S0 j))) (hb0 : RowAt w a03 n03 (fun j => .slice (A0 j) (L0 j) (C0 j))) (hs1 : RowAt w a11 n1 (fun j => .string (S1 j))) (hb1 : RowAt w a13 n13 (fun j => .slice (A1 j) (L1 j) (C1 j))) (hs2 : RowAt w a21 n2 (fun j => .string (S2 j))) (hb2 : RowAt w a23 n23 (fun j => .slice (A2 j) (L2 j) (C2 j))) :
    Calls Try.prog 22 #[.slice a01 n0 c01, .slice a02 n02 c02, .slice a03 n03 c03, .slice a11 n1 c11, .slice a12 n12 c12, .slice a13 n13 c13, .slice a21 n2 c21, .slice a22 n22 c22, .slice a23 n23 c23] w (fun e w' => SizedB (Small n0 n02 n03 L0 ∧ Small n1 n12 n13 L1 ∧ Small n2 n22 n23 L2) w w' e) := by
  obtain ⟨bs0, os0, es0, rs0⟩ := hs0
  obtain ⟨bb0, ob0, eb0, rb0⟩ := hb0
  have HS0 : Hid (∀ j, j < n0 → w.cell? ⟨bs0, os0 + j, none⟩ = some (.string (S0 j))) := rs0
  have HB0 : Hid (∀ j, j < n03 → w.cell? ⟨bb0, ob0 + j, none⟩ = some (.slice (A0 j) (L0 j) (C0 j))) := rb0
  clear rs0 rb0
  obtain ⟨bs1, os1, es1, rs1⟩ := hs1
  obtain ⟨bb1, ob1, eb1, rb1⟩ := hb1
  have HS1 : Hid (∀ j, j < n1 → w.cell? ⟨bs1, os1 + j, none⟩ = some (.string (S1 j))) := rs1
  have HB1 : Hid (∀ j, j < n13 → w.cell? ⟨bb1, ob1 + j, none⟩ = some (.slice (A1 j) (L1 j) (C1 j))) := rb1
  clear rs1 rb1
  obtain ⟨bs2, os2, es2, rs2⟩ := hs2
  obtain ⟨bb2, ob2, eb2, rb2⟩ := hb2
  have HS2 : Hid (∀ j, j < n2 → w.cell? ⟨bs2, os2 + j, none⟩ = some (.string (S2 j))) := rs2
  have HB2 : Hid (∀ j, j < n23 → w.cell? ⟨bb2, ob2 + j, none⟩ = some (.slice (A2 j) (L2 j) (C2 j))) := rb2
  clear rs2 rb2
  go_enter Try.func22, Try.ntmps22
  go_wp2
  all_goals first | (go_ret; exact SizedB.no _ _) | skip
  have hn0 : n0 ≤ 1048576 := by omega
  go_loopw [19, 20] (fun z i wr => ∃ (k : Nat) (t : Int), k ≤ n0 ∧ i = .int .i64 k ∧ z = .int .i64 t ∧ 0 ≤ t ∧ t ≤ 1048576 ∧ w = wr) (fun _ i _ => n0 - (intOf i).toNat)
  case atStart => exact ⟨0, _, by omega, rfl, rfl, by omega, by omega, rfl⟩
  case round =>
    obtain ⟨k, t, hk, rfl, rfl, ht0, ht1, rfl⟩ := hrel
    by_cases hlt : k < n0
    · obtain rfl := es0 (by omega)
      have q1 := HS0.out k hlt
      go_wp2
      all_goals first | (go_ret; exact SizedB.no _ _) | skip
      go_roundw
      case rel => exact ⟨k + 1, t + (S0 k).size, by omega, by go_num, by go_num, by omega, by omega, trivial⟩
      case measure => simp only [intOf]; omega
    · obtain rfl : n0 = k := by omega
      clear hlt hk
      go_wp2
      all_goals first | (go_ret; exact SizedB.no _ _) | skip
      have hn02 : n02 ≤ 1048576 := by omega
      have hn03 : n03 ≤ 1048576 := by omega
      go_loopw [19, 21] (fun z i wr => ∃ (k : Nat) (t : Int), k ≤ n03 ∧ i = .int .i64 k ∧ z = .int .i64 t ∧ 0 ≤ t ∧ t ≤ 1048576 ∧ w = wr ∧ Hid (∀ j, j < k → L0 j ≤ 1048576)) (fun _ i _ => n03 - (intOf i).toNat)
      case atStart => exact ⟨0, _, by omega, rfl, rfl, by omega, by omega, rfl, fun j hj => absurd hj (by omega)⟩
      case round =>
        clear ht0 ht1
        obtain ⟨k, t, hk, rfl, rfl, ht0, ht1, rfl, HL0⟩ := hrel
        by_cases hlt : k < n03
        · obtain rfl := eb0 (by omega)
          have q1 := HB0.out k hlt
          have HN : Hid (L0 k ≤ 1048576 → ∀ j, j < k + 1 → L0 j ≤ 1048576) := fun h1 j hj => by
            by_cases e : j = k
            · subst e; exact h1
            · exact HL0.out j (by omega)
          generalize L0 k = l at *
          go_wp2
          all_goals first | (go_ret; exact SizedB.no _ _) | skip
          go_roundw
          case rel => exact ⟨k + 1, t + l, by omega, by go_num, by go_num, by omega, by omega, trivial, HN.out (by omega)⟩
          case measure => simp only [intOf]; omega
        · obtain rfl : n03 = k := by omega
          have HF0 : Hid (Small n0 n02 n03 L0) := ⟨hn0, hn02, hn03, HL0.out⟩
          clear hlt hk
          go_wp2
          all_goals first | (go_ret; exact SizedB.no _ _) | skip
          have hn1 : n1 ≤ 1048576 := by omega
          go_loopw [19, 22] (fun z i wr => ∃ (k : Nat) (t : Int), k ≤ n1 ∧ i = .int .i64 k ∧ z = .int .i64 t ∧ 0 ≤ t ∧ t ≤ 1048576 ∧ w = wr) (fun _ i _ => n1 - (intOf i).toNat)
          case atStart => exact ⟨0, _, by omega, rfl, rfl, by omega, by omega, rfl⟩
          case round =>
            clear ht0 ht1
            obtain ⟨k, t, hk, rfl, rfl, ht0, ht1, rfl⟩ := hrel
            by_cases hlt : k < n1
            · obtain rfl := es1 (by omega)
              have q1 := HS1.out k hlt
              go_wp2
              all_goals first | (go_ret; exact SizedB.no _ _) | skip
              go_roundw
              case rel => exact ⟨k + 1, t + (S1 k).size, by omega, by go_num, by go_num, by omega, by omega, trivial⟩
              case measure => simp only [intOf]; omega
            · obtain rfl : n1 = k := by omega
              clear hlt hk
              go_wp2
              all_goals first | (go_ret; exact SizedB.no _ _) | skip
              have hn12 : n12 ≤ 1048576 := by omega
              have hn13 : n13 ≤ 1048576 := by omega
              go_loopw [19, 23] (fun z i wr => ∃ (k : Nat) (t : Int), k ≤ n13 ∧ i = .int .i64 k ∧ z = .int .i64 t ∧ 0 ≤ t ∧ t ≤ 1048576 ∧ w = wr ∧ Hid (∀ j, j < k → L1 j ≤ 1048576)) (fun _ i _ => n13 - (intOf i).toNat)
              case atStart => exact ⟨0, _, by omega, rfl, rfl, by omega, by omega, rfl, fun j hj => absurd hj (by omega)⟩
              case round =>
                clear ht0 ht1
                obtain ⟨k, t, hk, rfl, rfl, ht0, ht1, rfl, HL1⟩ := hrel
                by_cases hlt : k < n13
                · obtain rfl := eb1 (by omega)
                  have q1 := HB1.out k hlt
                  have HN : Hid (L1 k ≤ 1048576 → ∀ j, j < k + 1 → L1 j ≤ 1048576) := fun h1 j hj => by
                    by_cases e : j = k
                    · subst e; exact h1
                    · exact HL1.out j (by omega)
                  generalize L1 k = l at *
                  go_wp2
                  all_goals first | (go_ret; exact SizedB.no _ _) | skip
                  go_roundw
                  case rel => exact ⟨k + 1, t + l, by omega, by go_num, by go_num, by omega, by omega, trivial, HN.out (by omega)⟩
                  case measure => simp only [intOf]; omega
                · obtain rfl : n13 = k := by omega
                  have HF1 : Hid (Small n1 n12 n13 L1) := ⟨hn1, hn12, hn13, HL1.out⟩
                  clear hlt hk
                  go_wp2
                  all_goals first | (go_ret; exact SizedB.no _ _) | skip
                  have hn2 : n2 ≤ 1048576 := by omega
                  go_loopw [19, 24] (fun z i wr => ∃ (k : Nat) (t : Int), k ≤ n2 ∧ i = .int .i64 k ∧ z = .int .i64 t ∧ 0 ≤ t ∧ t ≤ 1048576 ∧ w = wr) (fun _ i _ => n2 - (intOf i).toNat)
                  case atStart => exact ⟨0, _, by omega, rfl, rfl, by omega, by omega, rfl⟩
                  case round =>
                    clear ht0 ht1
                    obtain ⟨k, t, hk, rfl, rfl, ht0, ht1, rfl⟩ := hrel
                    by_cases hlt : k < n2
                    · obtain rfl := es2 (by omega)
                      have q1 := HS2.out k hlt
                      go_wp2
                      all_goals first | (go_ret; exact SizedB.no _ _) | skip
                      go_roundw
                      case rel => exact ⟨k + 1, t + (S2 k).size, by omega, by go_num, by go_num, by omega, by omega, trivial⟩
                      case measure => simp only [intOf]; omega
                    · obtain rfl : n2 = k := by omega
                      clear hlt hk
                      go_wp2
                      all_goals first | (go_ret; exact SizedB.no _ _) | skip
                      have hn22 : n22 ≤ 1048576 := by omega
                      have hn23 : n23 ≤ 1048576 := by omega
                      go_loopw [19, 25] (fun z i wr => ∃ (k : Nat) (t : Int), k ≤ n23 ∧ i = .int .i64 k ∧ z = .int .i64 t ∧ 0 ≤ t ∧ t ≤ 1048576 ∧ w = wr ∧ Hid (∀ j, j < k → L2 j ≤ 1048576)) (fun _ i _ => n23 - (intOf i).toNat)
                      case atStart => exact ⟨0, _, by omega, rfl, rfl, by omega, by omega, rfl, fun j hj => absurd hj (by omega)⟩
                      case round =>
                        clear ht0 ht1
                        obtain ⟨k, t, hk, rfl, rfl, ht0, ht1, rfl, HL2⟩ := hrel
                        by_cases hlt : k < n23
                        · obtain rfl := eb2 (by omega)
                          have q1 := HB2.out k hlt
                          have HN : Hid (L2 k ≤ 1048576 → ∀ j, j < k + 1 → L2 j ≤ 1048576) := fun h1 j hj => by
                            by_cases e : j = k
                            · subst e; exact h1
                            · exact HL2.out j (by omega)
                          generalize L2 k = l at *
                          go_wp2
                          all_goals first | (go_ret; exact SizedB.no _ _) | skip
                          go_roundw
                          case rel => exact ⟨k + 1, t + l, by omega, by go_num, by go_num, by omega, by omega, trivial, HN.out (by omega)⟩
                          case measure => simp only [intOf]; omega
                        · obtain rfl : n23 = k := by omega
                          have HF2 : Hid (Small n2 n22 n23 L2) := ⟨hn2, hn22, hn23, HL2.out⟩
                          clear hlt hk
                          go_wp2_with fail
                          go_ret
                          exact SizedB.yes _ ⟨HF0.out, HF1.out, HF2.out⟩
end Go.Proofs.Qxb6620807a
