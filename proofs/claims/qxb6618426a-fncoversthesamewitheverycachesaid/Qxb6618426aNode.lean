import Derived.Test.Qxb6618426aMap
namespace Go.Proofs.Qxb6618426a
open Go.RowKit Go.ChangeMaps

theorem newNode_any (w : World) : Calls Try.prog 22 #[] w fun e w' => e = .returned (.pointer (some ⟨w.heap.size + 1, 0, none⟩)) ∧
    w' = (w.alloc (.map #[] 0)).alloc (.cells #[.map (some w.heap.size), .pointer none, .int .i32 0, .int .i32 0] 60) := by
  have hmm := @run_makeMap Try.prog
  go_enter Try.func22, Try.ntmps22
  go_wp2
  go_ret
  exact ⟨rfl, rfl⟩

theorem wildOf_any (b : Nat) (v : Value) (w : World) (h : w.cell? ⟨b, 1, none⟩ = some v) : Calls Try.prog 23 #[.pointer (some ⟨b, 0, none⟩)] w fun e w' => e = .returned v ∧ w' = w := by
  go_enter Try.func23, Try.ntmps23
  go_wp2
  go_ret
  exact ⟨rfl, rfl⟩

theorem setWild_any (b : Nat) (v : Option Addr) (u : Value) (w : World) (h : w.cell? ⟨b, 1, none⟩ = some u) (hf : w.frozen? ⟨b, 1, none⟩ = false) :
    Calls Try.prog 24 #[.pointer (some ⟨b, 0, none⟩), .pointer v] w fun e w' => e = .returned (.tuple #[]) ∧ w' = w.setCell ⟨b, 1, none⟩ (.pointer v) := by
  go_enter Try.func24, Try.ntmps24
  go_wp2
  go_end0
  exact ⟨rfl, rfl⟩

theorem litOf_any (b r : Nat) (s : ByteArray) (v : Value) (w : World) (h : w.cell? ⟨b, 0, none⟩ = some (.map (some r)))
    (hl : (Instr.lookup 58 (.map (some r)) (.string s) false).run Try.prog w = .ok v w) :
    Calls Try.prog 25 #[.pointer (some ⟨b, 0, none⟩), .string s] w fun e w' => e = .returned v ∧ w' = w := by
  go_enter Try.func25, Try.ntmps25
  go_wp2
  go_ret
  exact ⟨rfl, rfl⟩

theorem setLit_any (b r : Nat) (s : ByteArray) (v : Option Addr) (w w1 : World) (h : w.cell? ⟨b, 0, none⟩ = some (.map (some r)))
    (hl : (Instr.mapUpdate 58 (.map (some r)) (.string s) (.pointer v)).run Try.prog w = .ok () w1) :
    Calls Try.prog 26 #[.pointer (some ⟨b, 0, none⟩), .string s, .pointer v] w fun e w' => e = .returned (.tuple #[]) ∧ w' = w1 := by
  go_enter Try.func26, Try.ntmps26
  go_wp2
  go_end0
  exact ⟨rfl, rfl⟩

theorem setEnd_any (b : Nat) (x : Int) (u : Value) (w : World) (h : w.cell? ⟨b, 2, none⟩ = some u) (hf : w.frozen? ⟨b, 2, none⟩ = false) :
    Calls Try.prog 27 #[.pointer (some ⟨b, 0, none⟩), .int .i32 x] w fun e w' => e = .returned (.tuple #[]) ∧ w' = w.setCell ⟨b, 2, none⟩ (.int .i32 x) := by
  go_enter Try.func27, Try.ntmps27
  go_wp2
  go_end0
  exact ⟨rfl, rfl⟩

theorem newTree_any (a : Option Addr) (n c : Nat) (a' : Option Addr) (n' c' : Nat) (w : World) : Calls Try.prog 9 #[.slice a n c, .slice a' n' c'] w fun e w' => e = .returned (.pointer (some ⟨w.heap.size, 0, none⟩)) ∧
    w' = w.alloc (.cells #[.map none, .pointer none, .int .i32 0, .int .i32 0, .map none, .slice a n c, .slice a' n' c', .slice none 0 0, .slice none 0 0, .int .u64 0] 63) := by
  go_enter Try.func9, Try.ntmps9
  go_wp2
  go_ret
  exact ⟨rfl, rfl⟩

theorem newRoles_any (a : Option Addr) (n c : Nat) (p : Option Addr) (w : World) : Calls Try.prog 11 #[.slice a n c, .pointer p] w fun e w' => e = .returned (.pointer (some ⟨w.heap.size, 0, none⟩)) ∧
    w' = w.alloc (.cells #[.int .u64 0, .slice a n c, .pointer p] 65) := by
  go_enter Try.func11, Try.ntmps11
  go_wp2
  go_ret
  exact ⟨rfl, rfl⟩
end Go.Proofs.Qxb6618426a
