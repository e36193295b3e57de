import Derived.Test.Qxb6602498aModsB
import Derived.Test.Qxb6602498aModsD
import Derived.Test.Qxb6602498aModsE
namespace Go.Proofs.Qxb6602498aMods
open Go.ChangeShapes Go.WideShapes Go.ChangeAt Go.RowKit
set_option linter.unusedVariables false

set_option maxRecDepth 100000 in
theorem lit_zero (a : Option Addr) (cap : Nat) (w : World) :
    Calls Trym.prog 14 #[.slice a 0 cap] w fun e w' => e = .returned noA ∧ Below w.heap.size w w' := by
  go_enter Trym.func14, Trym.ntmps14
  go_wp2
  refine bodyPost_ret (v := noA) (by simp [noA, results, Trym.results14, go_sem]) rfl ⟨rfl, ?_⟩
  first
    | exact (((((Below.refl _ _).alloc (Nat.le_refl _) _).setCell (Nat.le_refl _) _).setCell (Nat.le_refl _) _).setCell (Nat.le_refl _) _).setCell (Nat.le_refl _) _
    | exact (Below.refl _ _).alloc (Nat.le_refl _) _

theorem lit_full (b off len cap : Nat) (w : World) (z : Nat → Int) (hn : need z ≤ (len : Int)) (hm : len ≤ 1048576)
    (hc : ∀ i, i < len → w.cell? ⟨b, off + i, none⟩ = some (.int .u8 (z i))) (hb : ∀ i, 0 ≤ z i ∧ z i ≤ 255) :
    Calls Trym.prog 14 #[.slice (some ⟨b, off, none⟩) len cap] w fun e w' => e = .returned (yesA z) ∧ Below w.heap.size w w' := by
  have hp : 1 ≤ need z := by unfold need; split <;> repeat (first | omega | split)
  have h0 : w.cell? ⟨b, off, none⟩ = some (.int .u8 (z 0)) := hc 0 (by omega)
  have hs0 : z 0 / 4 % 4 = 0 ∨ z 0 / 4 % 4 = 1 ∨ z 0 / 4 % 4 = 2 ∨ z 0 / 4 % 4 = 3 := by omega
  rcases (show z 0 % 4 = 0 ∨ z 0 % 4 = 1 ∨ 2 ≤ z 0 % 4 by omega) with ht | ht | ht
  · rcases hs0 with hs | hs | hs | hs
    · have e : yesA z = .tuple #[.agg #[.int .u8 0, .int .i64 1, .int .i64 (z 0 / 8), .int .i64 (z 0 / 8)], .bool true] := by simp [yesA, need, regen, comp, ht, hs]
      have hn' : 1 ≤ len := by simp [need, ht, hs] at hn; omega
      rw [e]
      exact lit_00 b off len cap w (z 0) hn' hm h0 (hb 0) ht hs
    · have e : yesA z = .tuple #[.agg #[.int .u8 0, .int .i64 2, .int .i64 (z 0 / 16 + z 1 * 16), .int .i64 (z 0 / 16 + z 1 * 16)], .bool true] := by simp [yesA, need, regen, comp, ht, hs]
      have hn' : 2 ≤ len := by simp [need, ht, hs] at hn; omega
      rw [e]
      exact lit_01 b off len cap w (z 0) (z 1) hn' hm h0 (hb 0) (hc 1 (by omega)) (hb 1) ht hs
    · have e : yesA z = .tuple #[.agg #[.int .u8 0, .int .i64 1, .int .i64 (z 0 / 8), .int .i64 (z 0 / 8)], .bool true] := by simp [yesA, need, regen, comp, ht, hs]
      have hn' : 1 ≤ len := by simp [need, ht, hs] at hn; omega
      rw [e]
      exact lit_02 b off len cap w (z 0) hn' hm h0 (hb 0) ht hs
    · have e : yesA z = .tuple #[.agg #[.int .u8 0, .int .i64 3, .int .i64 (z 0 / 16 + z 1 * 16 + z 2 * 4096), .int .i64 (z 0 / 16 + z 1 * 16 + z 2 * 4096)], .bool true] := by simp [yesA, need, regen, comp, ht, hs]
      have hn' : 3 ≤ len := by simp [need, ht, hs] at hn; omega
      rw [e]
      exact lit_03 b off len cap w (z 0) (z 1) (z 2) hn' hm h0 (hb 0) (hc 1 (by omega)) (hb 1) (hc 2 (by omega)) (hb 2) ht hs
  · rcases hs0 with hs | hs | hs | hs
    · have e : yesA z = .tuple #[.agg #[.int .u8 1, .int .i64 1, .int .i64 (z 0 / 8), .int .i64 (1)], .bool true] := by simp [yesA, need, regen, comp, ht, hs]
      have hn' : 1 ≤ len := by simp [need, ht, hs] at hn; omega
      rw [e]
      exact lit_10 b off len cap w (z 0) hn' hm h0 (hb 0) ht hs
    · have e : yesA z = .tuple #[.agg #[.int .u8 1, .int .i64 2, .int .i64 (z 0 / 16 + z 1 * 16), .int .i64 (1)], .bool true] := by simp [yesA, need, regen, comp, ht, hs]
      have hn' : 2 ≤ len := by simp [need, ht, hs] at hn; omega
      rw [e]
      exact lit_11 b off len cap w (z 0) (z 1) hn' hm h0 (hb 0) (hc 1 (by omega)) (hb 1) ht hs
    · have e : yesA z = .tuple #[.agg #[.int .u8 1, .int .i64 1, .int .i64 (z 0 / 8), .int .i64 (1)], .bool true] := by simp [yesA, need, regen, comp, ht, hs]
      have hn' : 1 ≤ len := by simp [need, ht, hs] at hn; omega
      rw [e]
      exact lit_12 b off len cap w (z 0) hn' hm h0 (hb 0) ht hs
    · have e : yesA z = .tuple #[.agg #[.int .u8 1, .int .i64 3, .int .i64 (z 0 / 16 + z 1 * 16 + z 2 * 4096), .int .i64 (1)], .bool true] := by simp [yesA, need, regen, comp, ht, hs]
      have hn' : 3 ≤ len := by simp [need, ht, hs] at hn; omega
      rw [e]
      exact lit_13 b off len cap w (z 0) (z 1) (z 2) hn' hm h0 (hb 0) (hc 1 (by omega)) (hb 1) (hc 2 (by omega)) (hb 2) ht hs
  · have t0 : ¬ z 0 % 4 = 0 := by omega
    have t1 : ¬ z 0 % 4 = 1 := by omega
    have t2 : ¬ z 0 % 4 < 2 := by omega
    rcases hs0 with hs | hs | hs | hs
    · have e : yesA z = .tuple #[.agg #[.int .u8 (z 0 % 4), .int .i64 3, .int .i64 (z 0 / 16 + z 1 % 64 * 16), .int .i64 (z 1 / 64 + z 2 * 4)], .bool true] := by simp [yesA, need, regen, comp, t0, t1, t2, hs]
      have hn' : 3 ≤ len := by simp [need, t2, hs] at hn; omega
      rw [e]
      exact lit_h0 b off len cap w (z 0) (z 1) (z 2) hn' hm h0 (hb 0) (hc 1 (by omega)) (hb 1) (hc 2 (by omega)) (hb 2) ht hs
    · have e : yesA z = .tuple #[.agg #[.int .u8 (z 0 % 4), .int .i64 3, .int .i64 (z 0 / 16 + z 1 % 64 * 16), .int .i64 (z 1 / 64 + z 2 * 4)], .bool true] := by simp [yesA, need, regen, comp, t0, t1, t2, hs]
      have hn' : 3 ≤ len := by simp [need, t2, hs] at hn; omega
      rw [e]
      exact lit_h1 b off len cap w (z 0) (z 1) (z 2) hn' hm h0 (hb 0) (hc 1 (by omega)) (hb 1) (hc 2 (by omega)) (hb 2) ht hs
    · have e : yesA z = .tuple #[.agg #[.int .u8 (z 0 % 4), .int .i64 4, .int .i64 (z 0 / 16 + z 1 * 16 + z 2 % 4 * 4096), .int .i64 (z 2 / 4 + z 3 * 64)], .bool true] := by simp [yesA, need, regen, comp, t0, t1, t2, hs]
      have hn' : 4 ≤ len := by simp [need, t2, hs] at hn; omega
      rw [e]
      exact lit_h2 b off len cap w (z 0) (z 1) (z 2) (z 3) hn' hm h0 (hb 0) (hc 1 (by omega)) (hb 1) (hc 2 (by omega)) (hb 2) (hc 3 (by omega)) (hb 3) ht hs
    · have e : yesA z = .tuple #[.agg #[.int .u8 (z 0 % 4), .int .i64 5, .int .i64 (z 0 / 16 + z 1 * 16 + z 2 % 64 * 4096), .int .i64 (z 2 / 64 + z 3 * 4 + z 4 * 1024)], .bool true] := by simp [yesA, need, regen, comp, t0, t1, t2, hs]
      have hn' : 5 ≤ len := by simp [need, t2, hs] at hn; omega
      rw [e]
      exact lit_h3 b off len cap w (z 0) (z 1) (z 2) (z 3) (z 4) hn' hm h0 (hb 0) (hc 1 (by omega)) (hb 1) (hc 2 (by omega)) (hb 2) (hc 3 (by omega)) (hb 3) (hc 4 (by omega)) (hb 4) ht hs

theorem lit_short (b off len cap : Nat) (w : World) (z : Nat → Int) (hp : 1 ≤ len) (hn : (len : Int) < need z) (hm : len ≤ 1048576)
    (hc : ∀ i, i < len → w.cell? ⟨b, off + i, none⟩ = some (.int .u8 (z i))) (hb : ∀ i, 0 ≤ z i ∧ z i ≤ 255) :
    Calls Trym.prog 14 #[.slice (some ⟨b, off, none⟩) len cap] w fun e w' => e = .returned noA ∧ Below w.heap.size w w' := by
  have h0 : w.cell? ⟨b, off, none⟩ = some (.int .u8 (z 0)) := hc 0 (by omega)
  have hs0 : z 0 / 4 % 4 = 0 ∨ z 0 / 4 % 4 = 1 ∨ z 0 / 4 % 4 = 2 ∨ z 0 / 4 % 4 = 3 := by omega
  rcases (show z 0 % 4 = 0 ∨ z 0 % 4 = 1 ∨ 2 ≤ z 0 % 4 by omega) with ht | ht | ht
  · rcases hs0 with hs | hs | hs | hs
    · simp [need, ht, hs] at hn; omega
    · have hn' : (len : Int) < 2 := by simp [need, ht, hs] at hn; omega
      exact lits_01 b off len cap w (z 0) hp hn' hm h0 (hb 0) ht hs
    · simp [need, ht, hs] at hn; omega
    · have hn' : (len : Int) < 3 := by simp [need, ht, hs] at hn; omega
      exact lits_03 b off len cap w (z 0) hp hn' hm h0 (hb 0) ht hs
  · rcases hs0 with hs | hs | hs | hs
    · simp [need, ht, hs] at hn; omega
    · have hn' : (len : Int) < 2 := by simp [need, ht, hs] at hn; omega
      exact lits_11 b off len cap w (z 0) hp hn' hm h0 (hb 0) ht hs
    · simp [need, ht, hs] at hn; omega
    · have hn' : (len : Int) < 3 := by simp [need, ht, hs] at hn; omega
      exact lits_13 b off len cap w (z 0) hp hn' hm h0 (hb 0) ht hs
  · have t2 : ¬ z 0 % 4 < 2 := by omega
    rcases hs0 with hs | hs | hs | hs
    · have hn' : (len : Int) < 3 := by simp [need, t2, hs] at hn; omega
      exact lits_h0 b off len cap w (z 0) hp hn' hm h0 (hb 0) ht hs
    · have hn' : (len : Int) < 3 := by simp [need, t2, hs] at hn; omega
      exact lits_h1 b off len cap w (z 0) hp hn' hm h0 (hb 0) ht hs
    · have hn' : (len : Int) < 4 := by simp [need, t2, hs] at hn; omega
      exact lits_h2 b off len cap w (z 0) hp hn' hm h0 (hb 0) ht hs
    · have hn' : (len : Int) < 5 := by simp [need, t2, hs] at hn; omega
      exact lits_h3 b off len cap w (z 0) hp hn' hm h0 (hb 0) ht hs

/-! ZZReadLiterals -/
theorem zz_zero (a : Option Addr) (cap : Nat) (w : World) :
    Calls Trym.prog 8 #[.slice a 0 cap] w fun e w' => e = .returned no ∧ Below w.heap.size w w' :=
  zzr a 0 cap w 0 0 0 0 false (lit_zero a cap w)
theorem zz_short (b off len cap : Nat) (w : World) (z : Nat → Int) (hp : 1 ≤ len) (hn : (len : Int) < need z) (hm : len ≤ 1048576)
    (hc : ∀ i, i < len → w.cell? ⟨b, off + i, none⟩ = some (.int .u8 (z i))) (hb : ∀ i, 0 ≤ z i ∧ z i ≤ 255) :
    Calls Trym.prog 8 #[.slice (some ⟨b, off, none⟩) len cap] w fun e w' => e = .returned no ∧ Below w.heap.size w w' :=
  zzr _ len cap w 0 0 0 0 false (lit_short b off len cap w z hp hn hm hc hb)
theorem zz_full (b off len cap : Nat) (w : World) (z : Nat → Int) (hn : need z ≤ (len : Int)) (hm : len ≤ 1048576)
    (hc : ∀ i, i < len → w.cell? ⟨b, off + i, none⟩ = some (.int .u8 (z i))) (hb : ∀ i, 0 ≤ z i ∧ z i ≤ 255) :
    Calls Trym.prog 8 #[.slice (some ⟨b, off, none⟩) len cap] w fun e w' => e = .returned (yes z) ∧ Below w.heap.size w w' :=
  zzr _ len cap w _ _ _ _ true (lit_full b off len cap w z hn hm hc hb)
end Go.Proofs.Qxb6602498aMods
