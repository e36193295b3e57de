import Derived.Test.Qxb6602498aModsRows
import Derived.WalkKit
import Derived.ProofKit
import Derived.OpenShut
import Derived.ChangeOld
import Derived.Below
import Derived.Laws.BitsAllLaws
import Derived.Deep.QuietTactic
import Derived.BigQuiet
namespace Go.Proofs.Qxb6602498aMods
open Go.ChangeShapes Go.WideShapes Go.ChangeAt Go.RowKit
set_option linter.unusedVariables false

def need (z : Nat → Int) : Int := if z 0 % 4 < 2 then (if z 0 / 4 % 4 = 1 then 2 else if z 0 / 4 % 4 = 3 then 3 else 1) else (if z 0 / 4 % 4 = 2 then 4 else if z 0 / 4 % 4 = 3 then 5 else 3)
def regen (z : Nat → Int) : Int := if z 0 % 4 < 2 then (if z 0 / 4 % 4 = 1 then z 0 / 16 + z 1 * 16 else if z 0 / 4 % 4 = 3 then z 0 / 16 + z 1 * 16 + z 2 * 4096 else z 0 / 8) else
  (if z 0 / 4 % 4 = 2 then z 0 / 16 + z 1 * 16 + z 2 % 4 * 4096 else if z 0 / 4 % 4 = 3 then z 0 / 16 + z 1 * 16 + z 2 % 64 * 4096 else z 0 / 16 + z 1 % 64 * 16)
def comp (z : Nat → Int) : Int := if z 0 % 4 = 0 then regen z else if z 0 % 4 = 1 then 1 else
  (if z 0 / 4 % 4 = 2 then z 2 / 4 + z 3 * 64 else if z 0 / 4 % 4 = 3 then z 2 / 64 + z 3 * 4 + z 4 * 1024 else z 1 / 64 + z 2 * 4)
def no : Value := .tuple #[.int .u8 0, .int .i64 0, .int .i64 0, .int .i64 0, .bool false]
def yes (z : Nat → Int) : Value := .tuple #[.int .u8 (z 0 % 4), .int .i64 (need z), .int .i64 (regen z), .int .i64 (comp z), .bool true]

set_option maxRecDepth 100000 in
theorem rfc_zero (a : Option Addr) (cap : Nat) (w : World) :
    Calls Trym.prog 9 #[.slice a 0 cap] w fun e w' => e = .returned no ∧ ∃ n, w' = w.drewN n := by
  go_enter Trym.func9, Trym.ntmps9
  go_wp2
  exact bodyPost_ret (v := no) (by simp [no, results, Trym.results9, go_sem]) rfl ⟨rfl, 0, rfl⟩

set_option maxRecDepth 100000 in
theorem rfc_short (b off len cap : Nat) (w : World) (z : Nat → Int) (h0 : 0 < len) (hn : (len : Int) < need z) (hm : len ≤ 1048576)
    (hc : ∀ i, i < len → w.cell? ⟨b, off + i, none⟩ = some (.int .u8 (z i))) (hb : ∀ i, 0 ≤ z i ∧ z i ≤ 255) :
    Calls Trym.prog 9 #[.slice (some ⟨b, off, none⟩) len cap] w fun e w' => e = .returned no ∧ ∃ n, w' = w.drewN n := by
  have c0 : w.cell? ⟨b, off, none⟩ = some (.int .u8 (z 0)) := hc 0 h0
  have b0 := hb 0
  have l0 : (0 : Int) < len := by omega
  clear hc hb
  have hcase : (z 0 % 4 < 2 ∧ z 0 / 4 % 4 = 1 ∧ (len : Int) < 2) ∨ (z 0 % 4 < 2 ∧ z 0 / 4 % 4 = 3 ∧ (len : Int) < 3) ∨ (2 ≤ z 0 % 4 ∧ z 0 / 4 % 4 = 2 ∧ (len : Int) < 4) ∨ (2 ≤ z 0 % 4 ∧ z 0 / 4 % 4 = 3 ∧ (len : Int) < 5) ∨ (2 ≤ z 0 % 4 ∧ z 0 / 4 % 4 < 2 ∧ (len : Int) < 3) := by
    unfold need at hn
    split at hn <;> repeat (split at hn)
    all_goals omega
  clear hn
  generalize z 0 = z0 at *
  rcases hcase with ⟨ht, hs, hl⟩ | ⟨ht, hs, hl⟩ | ⟨ht, hs, hl⟩ | ⟨ht, hs, hl⟩ | ⟨ht, hs, hl⟩
  all_goals
    go_enter Trym.func9, Trym.ntmps9
    go_wp2
    exact bodyPost_ret (v := no) (by simp [no, results, Trym.results9, go_sem]) rfl ⟨rfl, 0, rfl⟩

set_option maxRecDepth 100000 in
theorem rfc_01 (b off len cap : Nat) (w : World) (z0 z1 : Int) (hl : 2 ≤ len) (hm : len ≤ 1048576) (c0 : w.cell? ⟨b, off, none⟩ = some (.int .u8 z0)) (b0 : 0 ≤ z0 ∧ z0 ≤ 255) (c1 : w.cell? ⟨b, off + 1, none⟩ = some (.int .u8 z1)) (b1 : 0 ≤ z1 ∧ z1 ≤ 255)
    (ht : z0 % 4 = 0) (hs : z0 / 4 % 4 = 1) :
    Calls Trym.prog 9 #[.slice (some ⟨b, off, none⟩) len cap] w fun e w' => e = .returned (.tuple #[.int .u8 0, .int .i64 2, .int .i64 (z0 / 16 + z1 * 16), .int .i64 (z0 / 16 + z1 * 16), .bool true]) ∧ ∃ n, w' = w.drewN n := by
  have l0 : (0 : Int) < len := by omega
  have l1 : (1 : Int) < len := by omega
  go_enter Trym.func9, Trym.ntmps9
  go_wp2
  exact bodyPost_ret (v := .tuple #[.int .u8 0, .int .i64 2, .int .i64 (z0 / 16 + z1 * 16), .int .i64 (z0 / 16 + z1 * 16), .bool true]) (by simp [results, Trym.results9, go_sem]) rfl ⟨rfl, 0, rfl⟩

set_option maxRecDepth 100000 in
theorem rfc_03 (b off len cap : Nat) (w : World) (z0 z1 z2 : Int) (hl : 3 ≤ len) (hm : len ≤ 1048576) (c0 : w.cell? ⟨b, off, none⟩ = some (.int .u8 z0)) (b0 : 0 ≤ z0 ∧ z0 ≤ 255) (c1 : w.cell? ⟨b, off + 1, none⟩ = some (.int .u8 z1)) (b1 : 0 ≤ z1 ∧ z1 ≤ 255) (c2 : w.cell? ⟨b, off + 2, none⟩ = some (.int .u8 z2)) (b2 : 0 ≤ z2 ∧ z2 ≤ 255)
    (ht : z0 % 4 = 0) (hs : z0 / 4 % 4 = 3) :
    Calls Trym.prog 9 #[.slice (some ⟨b, off, none⟩) len cap] w fun e w' => e = .returned (.tuple #[.int .u8 0, .int .i64 3, .int .i64 (z0 / 16 + z1 * 16 + z2 * 4096), .int .i64 (z0 / 16 + z1 * 16 + z2 * 4096), .bool true]) ∧ ∃ n, w' = w.drewN n := by
  have l0 : (0 : Int) < len := by omega
  have l1 : (1 : Int) < len := by omega
  have l2 : (2 : Int) < len := by omega
  go_enter Trym.func9, Trym.ntmps9
  go_wp2
  go_quiet (fail)
  go_wp2
  exact bodyPost_ret (v := .tuple #[.int .u8 0, .int .i64 3, .int .i64 (z0 / 16 + z1 * 16 + z2 * 4096), .int .i64 (z0 / 16 + z1 * 16 + z2 * 4096), .bool true]) (by simp [results, Trym.results9, go_sem]) rfl ⟨rfl, _, rfl⟩

set_option maxRecDepth 100000 in
theorem rfc_0e (b off len cap : Nat) (w : World) (z0 : Int) (hl : 1 ≤ len) (hm : len ≤ 1048576) (c0 : w.cell? ⟨b, off, none⟩ = some (.int .u8 z0)) (b0 : 0 ≤ z0 ∧ z0 ≤ 255)
    (ht : z0 % 4 = 0) (hs : z0 / 4 % 4 % 2 = 0) :
    Calls Trym.prog 9 #[.slice (some ⟨b, off, none⟩) len cap] w fun e w' => e = .returned (.tuple #[.int .u8 0, .int .i64 1, .int .i64 (z0 / 8), .int .i64 (z0 / 8), .bool true]) ∧ ∃ n, w' = w.drewN n := by
  have l0 : (0 : Int) < len := by omega
  go_enter Trym.func9, Trym.ntmps9
  go_wp2
  exact bodyPost_ret (v := .tuple #[.int .u8 0, .int .i64 1, .int .i64 (z0 / 8), .int .i64 (z0 / 8), .bool true]) (by simp [results, Trym.results9, go_sem]) rfl ⟨rfl, 0, rfl⟩

set_option maxRecDepth 100000 in
theorem rfc_11 (b off len cap : Nat) (w : World) (z0 z1 : Int) (hl : 2 ≤ len) (hm : len ≤ 1048576) (c0 : w.cell? ⟨b, off, none⟩ = some (.int .u8 z0)) (b0 : 0 ≤ z0 ∧ z0 ≤ 255) (c1 : w.cell? ⟨b, off + 1, none⟩ = some (.int .u8 z1)) (b1 : 0 ≤ z1 ∧ z1 ≤ 255)
    (ht : z0 % 4 = 1) (hs : z0 / 4 % 4 = 1) :
    Calls Trym.prog 9 #[.slice (some ⟨b, off, none⟩) len cap] w fun e w' => e = .returned (.tuple #[.int .u8 1, .int .i64 2, .int .i64 (z0 / 16 + z1 * 16), .int .i64 (1), .bool true]) ∧ ∃ n, w' = w.drewN n := by
  have l0 : (0 : Int) < len := by omega
  have l1 : (1 : Int) < len := by omega
  go_enter Trym.func9, Trym.ntmps9
  go_wp2
  exact bodyPost_ret (v := .tuple #[.int .u8 1, .int .i64 2, .int .i64 (z0 / 16 + z1 * 16), .int .i64 (1), .bool true]) (by simp [results, Trym.results9, go_sem]) rfl ⟨rfl, 0, rfl⟩

set_option maxRecDepth 100000 in
theorem rfc_13 (b off len cap : Nat) (w : World) (z0 z1 z2 : Int) (hl : 3 ≤ len) (hm : len ≤ 1048576) (c0 : w.cell? ⟨b, off, none⟩ = some (.int .u8 z0)) (b0 : 0 ≤ z0 ∧ z0 ≤ 255) (c1 : w.cell? ⟨b, off + 1, none⟩ = some (.int .u8 z1)) (b1 : 0 ≤ z1 ∧ z1 ≤ 255) (c2 : w.cell? ⟨b, off + 2, none⟩ = some (.int .u8 z2)) (b2 : 0 ≤ z2 ∧ z2 ≤ 255)
    (ht : z0 % 4 = 1) (hs : z0 / 4 % 4 = 3) :
    Calls Trym.prog 9 #[.slice (some ⟨b, off, none⟩) len cap] w fun e w' => e = .returned (.tuple #[.int .u8 1, .int .i64 3, .int .i64 (z0 / 16 + z1 * 16 + z2 * 4096), .int .i64 (1), .bool true]) ∧ ∃ n, w' = w.drewN n := by
  have l0 : (0 : Int) < len := by omega
  have l1 : (1 : Int) < len := by omega
  have l2 : (2 : Int) < len := by omega
  go_enter Trym.func9, Trym.ntmps9
  go_wp2
  go_quiet (fail)
  go_wp2
  exact bodyPost_ret (v := .tuple #[.int .u8 1, .int .i64 3, .int .i64 (z0 / 16 + z1 * 16 + z2 * 4096), .int .i64 (1), .bool true]) (by simp [results, Trym.results9, go_sem]) rfl ⟨rfl, _, rfl⟩

set_option maxRecDepth 100000 in
theorem rfc_1e (b off len cap : Nat) (w : World) (z0 : Int) (hl : 1 ≤ len) (hm : len ≤ 1048576) (c0 : w.cell? ⟨b, off, none⟩ = some (.int .u8 z0)) (b0 : 0 ≤ z0 ∧ z0 ≤ 255)
    (ht : z0 % 4 = 1) (hs : z0 / 4 % 4 % 2 = 0) :
    Calls Trym.prog 9 #[.slice (some ⟨b, off, none⟩) len cap] w fun e w' => e = .returned (.tuple #[.int .u8 1, .int .i64 1, .int .i64 (z0 / 8), .int .i64 (1), .bool true]) ∧ ∃ n, w' = w.drewN n := by
  have l0 : (0 : Int) < len := by omega
  go_enter Trym.func9, Trym.ntmps9
  go_wp2
  exact bodyPost_ret (v := .tuple #[.int .u8 1, .int .i64 1, .int .i64 (z0 / 8), .int .i64 (1), .bool true]) (by simp [results, Trym.results9, go_sem]) rfl ⟨rfl, 0, rfl⟩

set_option maxRecDepth 100000 in
theorem rfc_h2 (b off len cap : Nat) (w : World) (z0 z1 z2 z3 : Int) (hl : 4 ≤ len) (hm : len ≤ 1048576) (c0 : w.cell? ⟨b, off, none⟩ = some (.int .u8 z0)) (b0 : 0 ≤ z0 ∧ z0 ≤ 255) (c1 : w.cell? ⟨b, off + 1, none⟩ = some (.int .u8 z1)) (b1 : 0 ≤ z1 ∧ z1 ≤ 255) (c2 : w.cell? ⟨b, off + 2, none⟩ = some (.int .u8 z2)) (b2 : 0 ≤ z2 ∧ z2 ≤ 255) (c3 : w.cell? ⟨b, off + 3, none⟩ = some (.int .u8 z3)) (b3 : 0 ≤ z3 ∧ z3 ≤ 255)
    (ht : 2 ≤ z0 % 4) (hs : z0 / 4 % 4 = 2) :
    Calls Trym.prog 9 #[.slice (some ⟨b, off, none⟩) len cap] w fun e w' => e = .returned (.tuple #[.int .u8 (z0 % 4), .int .i64 4, .int .i64 (z0 / 16 + z1 * 16 + z2 % 4 * 4096), .int .i64 (z2 / 4 + z3 * 64), .bool true]) ∧ ∃ n, w' = w.drewN n := by
  have l0 : (0 : Int) < len := by omega
  have l1 : (1 : Int) < len := by omega
  have l2 : (2 : Int) < len := by omega
  have l3 : (3 : Int) < len := by omega
  go_enter Trym.func9, Trym.ntmps9
  go_wp2
  go_quiet (fail)
  go_wp2
  go_quiet (fail)
  go_wp2
  exact bodyPost_ret (v := .tuple #[.int .u8 (z0 % 4), .int .i64 4, .int .i64 (z0 / 16 + z1 * 16 + z2 % 4 * 4096), .int .i64 (z2 / 4 + z3 * 64), .bool true]) (by simp [results, Trym.results9, go_sem]) rfl ⟨rfl, _, rfl⟩

set_option maxRecDepth 100000 in
theorem rfc_h3 (b off len cap : Nat) (w : World) (z0 z1 z2 z3 z4 : Int) (hl : 5 ≤ len) (hm : len ≤ 1048576) (c0 : w.cell? ⟨b, off, none⟩ = some (.int .u8 z0)) (b0 : 0 ≤ z0 ∧ z0 ≤ 255) (c1 : w.cell? ⟨b, off + 1, none⟩ = some (.int .u8 z1)) (b1 : 0 ≤ z1 ∧ z1 ≤ 255) (c2 : w.cell? ⟨b, off + 2, none⟩ = some (.int .u8 z2)) (b2 : 0 ≤ z2 ∧ z2 ≤ 255) (c3 : w.cell? ⟨b, off + 3, none⟩ = some (.int .u8 z3)) (b3 : 0 ≤ z3 ∧ z3 ≤ 255) (c4 : w.cell? ⟨b, off + 4, none⟩ = some (.int .u8 z4)) (b4 : 0 ≤ z4 ∧ z4 ≤ 255)
    (ht : 2 ≤ z0 % 4) (hs : z0 / 4 % 4 = 3) :
    Calls Trym.prog 9 #[.slice (some ⟨b, off, none⟩) len cap] w fun e w' => e = .returned (.tuple #[.int .u8 (z0 % 4), .int .i64 5, .int .i64 (z0 / 16 + z1 * 16 + z2 % 64 * 4096), .int .i64 (z2 / 64 + z3 * 4 + z4 * 1024), .bool true]) ∧ ∃ n, w' = w.drewN n := by
  have l0 : (0 : Int) < len := by omega
  have l1 : (1 : Int) < len := by omega
  have l2 : (2 : Int) < len := by omega
  have l3 : (3 : Int) < len := by omega
  have l4 : (4 : Int) < len := by omega
  go_enter Trym.func9, Trym.ntmps9
  go_wp2
  go_quiet (fail)
  go_wp2
  go_quiet (fail)
  go_wp2
  exact bodyPost_ret (v := .tuple #[.int .u8 (z0 % 4), .int .i64 5, .int .i64 (z0 / 16 + z1 * 16 + z2 % 64 * 4096), .int .i64 (z2 / 64 + z3 * 4 + z4 * 1024), .bool true]) (by simp [results, Trym.results9, go_sem]) rfl ⟨rfl, _, rfl⟩

set_option maxRecDepth 100000 in
theorem rfc_he (b off len cap : Nat) (w : World) (z0 z1 z2 : Int) (hl : 3 ≤ len) (hm : len ≤ 1048576) (c0 : w.cell? ⟨b, off, none⟩ = some (.int .u8 z0)) (b0 : 0 ≤ z0 ∧ z0 ≤ 255) (c1 : w.cell? ⟨b, off + 1, none⟩ = some (.int .u8 z1)) (b1 : 0 ≤ z1 ∧ z1 ≤ 255) (c2 : w.cell? ⟨b, off + 2, none⟩ = some (.int .u8 z2)) (b2 : 0 ≤ z2 ∧ z2 ≤ 255)
    (ht : 2 ≤ z0 % 4) (hs : z0 / 4 % 4 < 2) :
    Calls Trym.prog 9 #[.slice (some ⟨b, off, none⟩) len cap] w fun e w' => e = .returned (.tuple #[.int .u8 (z0 % 4), .int .i64 3, .int .i64 (z0 / 16 + z1 % 64 * 16), .int .i64 (z1 / 64 + z2 * 4), .bool true]) ∧ ∃ n, w' = w.drewN n := by
  have l0 : (0 : Int) < len := by omega
  have l1 : (1 : Int) < len := by omega
  have l2 : (2 : Int) < len := by omega
  go_enter Trym.func9, Trym.ntmps9
  go_wp2
  go_quiet (fail)
  go_wp2
  exact bodyPost_ret (v := .tuple #[.int .u8 (z0 % 4), .int .i64 3, .int .i64 (z0 / 16 + z1 % 64 * 16), .int .i64 (z1 / 64 + z2 * 4), .bool true]) (by simp [results, Trym.results9, go_sem]) rfl ⟨rfl, _, rfl⟩

theorem rfc_full (b off len cap : Nat) (w : World) (z : Nat → Int) (hn : need z ≤ (len : Int)) (hm : len ≤ 1048576)
    (hc : ∀ i, i < len → w.cell? ⟨b, off + i, none⟩ = some (.int .u8 (z i))) (hb : ∀ i, 0 ≤ z i ∧ z i ≤ 255) :
    Calls Trym.prog 9 #[.slice (some ⟨b, off, none⟩) len cap] w fun e w' => e = .returned (yes z) ∧ ∃ n, w' = w.drewN n := by
  have hp : 1 ≤ need z := by unfold need; split <;> repeat (first | omega | split)
  have h0 : w.cell? ⟨b, off, none⟩ = some (.int .u8 (z 0)) := hc 0 (by omega)
  have hs0 : z 0 / 4 % 4 = 1 ∨ z 0 / 4 % 4 = 3 ∨ z 0 / 4 % 4 = 0 ∨ z 0 / 4 % 4 = 2 := by omega
  rcases (show z 0 % 4 = 0 ∨ z 0 % 4 = 1 ∨ 2 ≤ z 0 % 4 by omega) with ht | ht | ht
  · rcases hs0 with hs | hs | hs | hs
    · have e : yes z = .tuple #[.int .u8 0, .int .i64 2, .int .i64 (z 0 / 16 + z 1 * 16), .int .i64 (z 0 / 16 + z 1 * 16), .bool true] := by simp [yes, need, regen, comp, ht, hs]
      have hn' : 2 ≤ len := by simp [need, ht, hs] at hn; omega
      rw [e]
      exact rfc_01 b off len cap w (z 0) (z 1) hn' hm h0 (hb 0) (hc 1 (by omega)) (hb 1) ht hs
    · have e : yes z = .tuple #[.int .u8 0, .int .i64 3, .int .i64 (z 0 / 16 + z 1 * 16 + z 2 * 4096), .int .i64 (z 0 / 16 + z 1 * 16 + z 2 * 4096), .bool true] := by simp [yes, need, regen, comp, ht, hs]
      have hn' : 3 ≤ len := by simp [need, ht, hs] at hn; omega
      rw [e]
      exact rfc_03 b off len cap w (z 0) (z 1) (z 2) hn' hm h0 (hb 0) (hc 1 (by omega)) (hb 1) (hc 2 (by omega)) (hb 2) ht hs
    all_goals
      have e : yes z = .tuple #[.int .u8 0, .int .i64 1, .int .i64 (z 0 / 8), .int .i64 (z 0 / 8), .bool true] := by simp [yes, need, regen, comp, ht, hs]
      have hn' : 1 ≤ len := by simp [need, ht, hs] at hn; omega
      rw [e]
      exact rfc_0e b off len cap w (z 0) hn' hm h0 (hb 0) ht (by omega)
  · rcases hs0 with hs | hs | hs | hs
    · have e : yes z = .tuple #[.int .u8 1, .int .i64 2, .int .i64 (z 0 / 16 + z 1 * 16), .int .i64 1, .bool true] := by simp [yes, need, regen, comp, ht, hs]
      have hn' : 2 ≤ len := by simp [need, ht, hs] at hn; omega
      rw [e]
      exact rfc_11 b off len cap w (z 0) (z 1) hn' hm h0 (hb 0) (hc 1 (by omega)) (hb 1) ht hs
    · have e : yes z = .tuple #[.int .u8 1, .int .i64 3, .int .i64 (z 0 / 16 + z 1 * 16 + z 2 * 4096), .int .i64 1, .bool true] := by simp [yes, need, regen, comp, ht, hs]
      have hn' : 3 ≤ len := by simp [need, ht, hs] at hn; omega
      rw [e]
      exact rfc_13 b off len cap w (z 0) (z 1) (z 2) hn' hm h0 (hb 0) (hc 1 (by omega)) (hb 1) (hc 2 (by omega)) (hb 2) ht hs
    all_goals
      have e : yes z = .tuple #[.int .u8 1, .int .i64 1, .int .i64 (z 0 / 8), .int .i64 1, .bool true] := by simp [yes, need, regen, comp, ht, hs]
      have hn' : 1 ≤ len := by simp [need, ht, hs] at hn; omega
      rw [e]
      exact rfc_1e b off len cap w (z 0) hn' hm h0 (hb 0) ht (by omega)
  · have t0 : ¬ z 0 % 4 = 0 := by omega
    have t1 : ¬ z 0 % 4 = 1 := by omega
    have t2 : ¬ z 0 % 4 < 2 := by omega
    rcases (show z 0 / 4 % 4 = 2 ∨ z 0 / 4 % 4 = 3 ∨ z 0 / 4 % 4 < 2 by omega) with hs | hs | hs
    · have e : yes z = .tuple #[.int .u8 (z 0 % 4), .int .i64 4, .int .i64 (z 0 / 16 + z 1 * 16 + z 2 % 4 * 4096), .int .i64 (z 2 / 4 + z 3 * 64), .bool true] := by simp [yes, need, regen, comp, t0, t1, t2, hs]
      have hn' : 4 ≤ len := by simp [need, t2, hs] at hn; omega
      rw [e]
      exact rfc_h2 b off len cap w (z 0) (z 1) (z 2) (z 3) hn' hm h0 (hb 0) (hc 1 (by omega)) (hb 1) (hc 2 (by omega)) (hb 2) (hc 3 (by omega)) (hb 3) ht hs
    · have e : yes z = .tuple #[.int .u8 (z 0 % 4), .int .i64 5, .int .i64 (z 0 / 16 + z 1 * 16 + z 2 % 64 * 4096), .int .i64 (z 2 / 64 + z 3 * 4 + z 4 * 1024), .bool true] := by simp [yes, need, regen, comp, t0, t1, t2, hs]
      have hn' : 5 ≤ len := by simp [need, t2, hs] at hn; omega
      rw [e]
      exact rfc_h3 b off len cap w (z 0) (z 1) (z 2) (z 3) (z 4) hn' hm h0 (hb 0) (hc 1 (by omega)) (hb 1) (hc 2 (by omega)) (hb 2) (hc 3 (by omega)) (hb 3) (hc 4 (by omega)) (hb 4) ht hs
    · have s2 : ¬ z 0 / 4 % 4 = 2 := by omega
      have s3 : ¬ z 0 / 4 % 4 = 3 := by omega
      have e : yes z = .tuple #[.int .u8 (z 0 % 4), .int .i64 3, .int .i64 (z 0 / 16 + z 1 % 64 * 16), .int .i64 (z 1 / 64 + z 2 * 4), .bool true] := by simp [yes, need, regen, comp, t0, t1, t2, s2, s3]
      have hn' : 3 ≤ len := by simp [need, t2, s2, s3] at hn; omega
      rw [e]
      exact rfc_he b off len cap w (z 0) (z 1) (z 2) hn' hm h0 (hb 0) (hc 1 (by omega)) (hb 1) (hc 2 (by omega)) (hb 2) ht hs

end Go.Proofs.Qxb6602498aMods
