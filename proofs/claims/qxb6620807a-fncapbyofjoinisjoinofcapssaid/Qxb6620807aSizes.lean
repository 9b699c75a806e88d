import Derived.Test.Qxb6620807aLeaf
namespace Go.Proofs.Qxb6620807a
open Go.RowKit
set_option linter.unusedVariables false

def AnyB (w w' : World) (e : Ending) : Prop := ∃ b, e = .returned (.bool b) ∧ w' = w
theorem tooLong_any (a1 a2 a3 : Option Addr) (n n2 n3 c1 c2 c3 : Nat) (w : World) :
    Calls Try.prog 9 #[.slice a1 n c1, .slice a2 n2 c2, .slice a3 n3 c3] w (fun e w' => AnyB w w' e) := by
  by_cases h1 : 65536 < n
  · go_enter Try.func9, Try.ntmps9
    go_wp2_with fail
    go_ret
    exact ⟨_, rfl, rfl⟩
  · by_cases h2 : 65536 < n2
    · go_enter Try.func9, Try.ntmps9
      go_wp2_with fail
      go_ret
      exact ⟨_, rfl, rfl⟩
    · go_enter Try.func9, Try.ntmps9
      go_wp2_with fail
      go_ret
      exact ⟨_, rfl, rfl⟩

def Total (w w' : World) (e : Ending) : Prop := ∃ r : Int, e = .returned (.int .i64 r) ∧ 0 ≤ r ∧ r ≤ 9223372036854775807 ∧ w' = w

set_option maxHeartbeats 2000000 in
theorem bytes_any (t : Int) (a1 a2 a3 : Option Addr) (n n2 n3 c1 c2 c3 : Nat) (S : Nat → ByteArray) (A : Nat → Option Addr) (L C : Nat → Nat) (w : World) (ht : 0 ≤ t) (htM : t ≤ 9223372036854775807)
    (hn : n ≤ 1048576) (hn2 : n2 ≤ 1048576) (hn3 : n3 ≤ 1048576) (hL : ∀ j, j < n3 → L j ≤ 1048576)
    (h1 : RowAt w a1 n (fun j => .string (S j))) (h3 : RowAt w a3 n3 (fun j => .slice (A j) (L j) (C j))) :
    Calls Try.prog 10 #[.int .i64 t, .slice a1 n c1, .slice a2 n2 c2, .slice a3 n3 c3] w (fun e w' => Total w w' e) := by
  obtain ⟨b1, o1, e1, r1⟩ := h1
  obtain ⟨b3, o3, e3, r3⟩ := h3
  go_enter Try.func10, Try.ntmps10
  by_cases hg : 1048576 < t
  · go_wp2_with fail
    go_ret
    exact ⟨_, rfl, ht, htM, rfl⟩
  · clear htM
    go_wp2
    all_goals first | (go_ret; exact ⟨_, rfl, by omega, by omega, rfl⟩) | skip
    go_loopw [0, 9] (fun z i wr => ∃ (k : Nat) (t : Int), k ≤ n ∧ i = .int .i64 k ∧ z = .int .i64 t ∧ 0 ≤ t ∧ t ≤ 1048576 ∧ w = wr) (fun _ i _ => n - (intOf i).toNat)
    case atStart => exact ⟨0, _, by omega, rfl, rfl, by omega, by omega, rfl⟩
    case round =>
      clear hg ht
      obtain ⟨k, t, hk, rfl, rfl, ht0, ht1, rfl⟩ := hrel
      by_cases hlt : k < n
      · obtain rfl := e1 (by omega)
        have q1 := r1 k hlt

        clear r1 r3
        by_cases hs : 1048576 - t < ((S k).size : Int)
        · go_wp2_with fail
          go_ret
          exact ⟨_, rfl, by omega, by omega, rfl⟩
        · go_wp2_with fail
          go_roundw
          case rel => exact ⟨k + 1, t + (S k).size, by omega, by go_num, by go_num, by omega, by omega, trivial⟩
          case measure => simp only [intOf]; omega
      · obtain rfl : n = k := by omega
        clear r1
        go_wp2_with fail
        go_loopw [0, 10] (fun z i wr => ∃ (k : Nat) (t : Int), k ≤ n3 ∧ i = .int .i64 k ∧ z = .int .i64 t ∧ 0 ≤ t ∧ t ≤ 1048576 ∧ w = wr) (fun _ i _ => n3 - (intOf i).toNat)
        case atStart => exact ⟨0, _, by omega, rfl, rfl, by omega, by omega, rfl⟩
        case round =>
          clear ht0 ht1
          obtain ⟨k, t, hk, rfl, rfl, ht0, ht1, rfl⟩ := hrel
          by_cases hlt : k < n3
          · obtain rfl := e3 (by omega)
            have q1 := r3 k hlt
            have hLk := hL k hlt

            clear r3 hL
            generalize L k = l at *
            go_wp2
            · go_ret
              exact ⟨_, rfl, by omega, by omega, rfl⟩
            · go_roundw
              case rel => exact ⟨k + 1, t + 8 * l, by omega, by go_num, by go_num, by omega, by omega, trivial⟩
              case measure => simp only [intOf]; omega
          · obtain rfl : n3 = k := by omega
            clear r3
            go_wp2_with fail
            go_ret
            exact ⟨_, rfl, by omega, by omega, rfl⟩
end Go.Proofs.Qxb6620807a
