import Derived.Test.Qxb6620807aPts
namespace Go.Proofs.Qxb6620807a
open Go.RowKit
set_option linter.unusedVariables false

/-- A context that is well formed, its numbers counters, its rows not longer than M. -/
structure CtxN (n : Nat) (S : Nat → ByteArray) (U : Nat → Int) (L : Nat → Nat) (F : Nat → Nat → Int) (M : Nat) : Prop where
  ok : CtxOK n S L F
  u : ∀ j, j < n → In64 (U j)
  f : ∀ j, j < n → ∀ k, k < L j → In64 (F j k)
  len : ∀ j, j < n → L j ≤ M

set_option maxHeartbeats 1000000 in
theorem points_f (B : Nat) (w0 w : World) (v : Value) (N M : Nat) (a1 a2 a3 : Option Addr) (n c1 c2 c3 : Nat) (S : Nat → ByteArray) (U : Nat → Int) (A : Nat → Option Addr) (L C : Nat → Nat) (F : Nat → Nat → Int) (a : ByteArray)
    (hN : N ≤ 1073741824) (hM : M ≤ 16777216) (hB : w0.heap.size ≤ B) (hBw : B ≤ w.heap.size) (hb : Below B w0 w) (hG : CtxN n S U L F M) (h : Rows3 w0 a1 a2 a3 n S U A L C F) (hp : Pts B w v N) :
    Calls Try.prog 33 #[v, .agg #[.slice a1 n c1, .slice a2 n c2, .slice a3 n c3], .string a] w (fun e w' => Pointed B w0 (N + 3 + 2 * M) w' e) := by
  have HG : Hid (CtxN n S U L F M) := hG
  have hn := hG.ok.hn
  clear hG
  go_enter Try.func33, Try.ntmps33
  go_wp2_with fail
  have Bx := box3' w (.slice a1 n c1) (.slice a2 n c2) (.slice a3 n c3) 30
  generalize (w.alloc (Obj.cells #[Value.slice a1 n c1, Value.slice a2 n c2, Value.slice a3 n c3] 30)) = w1 at *
  have h0 := h.s.below hB hb
  refine (find_any _ _ _ _ _ _ _ _ _ S _ _ hn HG.out.ok.hs (h0.now Bx.below)).mono ?_
  rintro e w2 ⟨p, rfl, hpp, hb2⟩
  have B2 := Bx.on hb2
  have hb3 : Below B w0 w2 := hb.trans (B2.below.mono hBw)
  have hp3 := hp.now B2.below
  have hBw2 : B ≤ w2.heap.size := Nat.le_trans hBw (Nat.le_of_lt B2.lt)
  clear Bx hb2 hb hp h0
  rcases hpp with ⟨i, rfl, hi, hS⟩ | ⟨rfl, hno⟩
  · obtain ⟨hbel, k0, k1, k2, k3⟩ := B2
    obtain ⟨b2, o2, e2, r2⟩ := h.u.below hB hb3
    obtain ⟨b3, o3, e3, r3⟩ := h.b.below hB hb3
    obtain rfl := e2 (by omega)
    obtain rfl := e3 (by omega)
    have q2 := r2 i hi
    have q3 := r3 i hi
    have hF := h.f i hi
    have hi' : (i : Int) < n := by omega
    have hL := HG.out.len i hi
    have HU := HG.out.u i hi
    have HFF := HG.out.f i hi
    have hLn := HG.out.ok.hl i hi
    obtain ⟨hu0, hu1⟩ := HU
    have HF : Hid (∀ k, k < L i → In64 (F i k)) := HFF
    have HR : Hid (RowAt w0 (A i) (L i) (fun k => .int .u64 (F i k))) := hF
    have HP3 : Hid (Pts B w2 v N) := hp3
    have HB3 : Hid (Below B w0 w2) := hb3
    clear r2 r3 h HFF hF hp3 hb3 k3 hbel hS k0
    simp only [] at q2 q3
    generalize U i = u at *
    generalize F i = f at *
    generalize A i = aa at *
    generalize L i = l at *
    generalize C i = cc at *
    go_wp2_with fail
    go_region_with (go_at_call 27; refine (runPoints_f B w0 w2.drew _ N _ _ _ _ f hLn hN hB hBw2 (Below.drew HB3.out) hu0 hu1 HF.out HR.out HP3.out).mono ?_; rintro e w3 ⟨v3, rfl, hp3, hb3⟩)
    all_goals
      have HQ : Hid (Pts B w3 v3 (N + 3 + 2 * M)) := hp3.mono (by omega)
      go_wp2_with fail
      go_ret
      exact ⟨_, rfl, HQ.out, hb3⟩
  · clear hno h
    have HQ : Hid (Pts B w2 v (N + 3 + 2 * M)) := hp3.mono (by omega)
    go_wp2_with fail
    go_ret
    exact ⟨_, rfl, HQ.out, hb3⟩
end Go.Proofs.Qxb6620807a
