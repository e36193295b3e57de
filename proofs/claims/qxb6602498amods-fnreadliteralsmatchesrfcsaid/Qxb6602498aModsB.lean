import Derived.Test.Qxb6602498aModsA
import Derived.Laws.BitsLemmas
import Derived.WalkLawsBesides
namespace Go.Proofs.Qxb6602498aMods
open Go.ChangeShapes Go.WideShapes Go.ChangeAt Go.RowKit
set_option linter.unusedVariables false

theorem and3 (x : Int) (h0 : 0 ≤ x) (h1 : x < 256) : bits .and .u8 x 3 = x % 4 := bits_mask .u8 8 (by decide) wraps_u8 2 (by decide) x h0 h1
theorem or8 (x y : Int) (h0 : 0 ≤ x) (h1 : x < 4294967296) (h2 : 0 ≤ y) (h3 : y ≤ 255) : bits .or .u64 (x * 256) y = x * 256 + y := by
  rw [u64_or (x * 256) y (by omega) (by omega) h2 (by omega), nat_join 8 _ _ (by omega) (by omega)]
  omega
theorem or0 (y : Int) (h2 : 0 ≤ y) (h3 : y ≤ 255) : bits .or .u64 0 y = y := by have := or8 0 y (by omega) (by omega) h2 h3; simpa using this
theorem mask64 (i : Nat) (hi : i ≤ 32) (x : Int) (h0 : 0 ≤ x) (h1 : x < 18446744073709551616) : bits .and .u64 x ((2 ^ i - 1 : Nat) : Int) = x % (2 ^ i : Nat) := by
  have hp : 2 ^ i ≤ 2 ^ 32 := Nat.pow_le_pow_right (by decide) hi
  have h2 : 1 ≤ 2 ^ i := Nat.one_le_two_pow
  rw [u64_and x _ h0 h1 (by omega) (by omega), Int.toNat_natCast, Nat.and_two_pow_sub_one_eq_mod, Int.natCast_emod, Int.toNat_of_nonneg h0]
theorem m5 (x : Int) (h0 : 0 ≤ x) (h1 : x < 18446744073709551616) : bits .and .u64 x 31 = x % 32 := mask64 5 (by decide) x h0 h1
theorem m10 (x : Int) (h0 : 0 ≤ x) (h1 : x < 18446744073709551616) : bits .and .u64 x 1023 = x % 1024 := mask64 10 (by decide) x h0 h1
theorem m12 (x : Int) (h0 : 0 ≤ x) (h1 : x < 18446744073709551616) : bits .and .u64 x 4095 = x % 4096 := mask64 12 (by decide) x h0 h1
theorem m14 (x : Int) (h0 : 0 ≤ x) (h1 : x < 18446744073709551616) : bits .and .u64 x 16383 = x % 16384 := mask64 14 (by decide) x h0 h1
theorem m18 (x : Int) (h0 : 0 ≤ x) (h1 : x < 18446744073709551616) : bits .and .u64 x 262143 = x % 262144 := mask64 18 (by decide) x h0 h1
theorem m20 (x : Int) (h0 : 0 ≤ x) (h1 : x < 18446744073709551616) : bits .and .u64 x 1048575 = x % 1048576 := mask64 20 (by decide) x h0 h1

theorem bel_short (w : World) (o : Obj) (n : Nat) (v0 v1 v2 v3 : Value) : Below w.heap.size w ((((((w.alloc o).drewN n).setCell ⟨w.heap.size, 0, none⟩ v0).setCell ⟨w.heap.size, 1, none⟩ v1).setCell ⟨w.heap.size, 2, none⟩ v2).setCell ⟨w.heap.size, 3, none⟩ v3) :=
  ((((below_drewN ((Below.refl _ _).alloc (Nat.le_refl _) _) _).setCell (Nat.le_refl _) _).setCell (Nat.le_refl _) _).setCell (Nat.le_refl _) _).setCell (Nat.le_refl _) _
theorem bel_full (w : World) (o : Obj) (n : Nat) (v0 v1 v2 v3 : Value) (o2 : Obj) : Below w.heap.size w (((((((w.alloc o).drewN n).setCell ⟨w.heap.size, 0, none⟩ v0).setCell ⟨w.heap.size, 1, none⟩ v1).setCell ⟨w.heap.size, 2, none⟩ v2).setCell ⟨w.heap.size, 3, none⟩ v3).alloc o2) :=
  (bel_short w o n v0 v1 v2 v3).alloc (bel_short w o n v0 v1 v2 v3).size o2
def noA : Value := .tuple #[.agg #[.int .u8 0, .int .i64 0, .int .i64 0, .int .i64 0], .bool false]
def yesA (z : Nat → Int) : Value := .tuple #[.agg #[.int .u8 (z 0 % 4), .int .i64 (need z), .int .i64 (regen z), .int .i64 (comp z)], .bool true]

set_option maxRecDepth 100000 in
set_option maxHeartbeats 400000 in
theorem lit_00 (b off len cap : Nat) (w : World) (z0 : Int) (hl : 1 ≤ len) (hm : len ≤ 1048576) (c0 : w.cell? ⟨b, off, none⟩ = some (.int .u8 z0)) (b0 : 0 ≤ z0 ∧ z0 ≤ 255)
    (ht : z0 % 4 = 0) (hs : z0 / 4 % 4 = 0) :
    Calls Trym.prog 14 #[.slice (some ⟨b, off, none⟩) len cap] w fun e w' => e = .returned (.tuple #[.agg #[.int .u8 0, .int .i64 1, .int .i64 (z0 / 8), .int .i64 (z0 / 8)], .bool true]) ∧ Below w.heap.size w w' := by
  have l0 : (0 : Int) < len := by omega
  have k1 : bits .and .u8 z0 3 = 0 := by rw [and3 z0 b0.1 (by omega)]; exact ht
  have k2 : bits .and .u8 (z0 / 4) 3 = 0 := by rw [and3 (z0 / 4) (by omega) (by omega)]; exact hs
  have k3 : bits .and .u8 0 1 = 0 := by decide +kernel
  have i1 : ∀ w, (Instr.index 42 (.agg #[.int .i64 1, .int .i64 2, .int .i64 1, .int .i64 3]) (.int .u8 0)).run Trym.prog w = .ok (.int .i64 1) w := fun _ => by kernel_rfl
  have i2 : ∀ w, (Instr.index 42 (.agg #[.int .i64 5, .int .i64 12, .int .i64 5, .int .i64 20]) (.int .u8 0)).run Trym.prog w = .ok (.int .i64 5) w := fun _ => by kernel_rfl
  have o1 : bits .or .u64 0 z0 = z0 := or0 _ (by omega) (by omega)
  have a1 : bits .and .u64 (z0 / 8) 31 = z0 / 8 := by rw [m5 _ (by omega) (by omega)]; omega
  have hbw : b < w.heap.size := block_lt_of_cell c0
  go_enter Trym.func14, Trym.ntmps14
  go_wp2
  go_quiet (fail)
  go_wp2
  go_quiet (fail)
  go_wp2
  refine wp_loop_rounds 2 ?_
  rw [rounds_succ]
  go_wp2
  rw [rounds_succ]
  go_wp2
  exact bodyPost_ret (v := .tuple #[.agg #[.int .u8 0, .int .i64 1, .int .i64 (z0 / 8), .int .i64 (z0 / 8)], .bool true]) (by simp [results, Trym.results14, go_sem]) rfl ⟨rfl, bel_full _ _ _ _ _ _ _ _⟩

set_option maxRecDepth 100000 in
set_option maxHeartbeats 400000 in
theorem lit_01 (b off len cap : Nat) (w : World) (z0 z1 : Int) (hl : 2 ≤ len) (hm : len ≤ 1048576) (c0 : w.cell? ⟨b, off, none⟩ = some (.int .u8 z0)) (b0 : 0 ≤ z0 ∧ z0 ≤ 255) (c1 : w.cell? ⟨b, off + 1, none⟩ = some (.int .u8 z1)) (b1 : 0 ≤ z1 ∧ z1 ≤ 255)
    (ht : z0 % 4 = 0) (hs : z0 / 4 % 4 = 1) :
    Calls Trym.prog 14 #[.slice (some ⟨b, off, none⟩) len cap] w fun e w' => e = .returned (.tuple #[.agg #[.int .u8 0, .int .i64 2, .int .i64 (z0 / 16 + z1 * 16), .int .i64 (z0 / 16 + z1 * 16)], .bool true]) ∧ Below w.heap.size w w' := by
  have l0 : (0 : Int) < len := by omega
  have l1 : (1 : Int) < len := by omega
  have k1 : bits .and .u8 z0 3 = 0 := by rw [and3 z0 b0.1 (by omega)]; exact ht
  have k2 : bits .and .u8 (z0 / 4) 3 = 1 := by rw [and3 (z0 / 4) (by omega) (by omega)]; exact hs
  have k3 : bits .and .u8 1 1 = 1 := by decide +kernel
  have i1 : ∀ w, (Instr.index 42 (.agg #[.int .i64 1, .int .i64 2, .int .i64 1, .int .i64 3]) (.int .u8 1)).run Trym.prog w = .ok (.int .i64 2) w := fun _ => by kernel_rfl
  have i2 : ∀ w, (Instr.index 42 (.agg #[.int .i64 5, .int .i64 12, .int .i64 5, .int .i64 20]) (.int .u8 1)).run Trym.prog w = .ok (.int .i64 12) w := fun _ => by kernel_rfl
  have o1 : bits .or .u64 0 z1 = z1 := or0 _ (by omega) (by omega)
  have o2 : bits .or .u64 (z1 * 256) z0 = z1 * 256 + z0 := or8 _ _ (by omega) (by omega) (by omega) (by omega)
  have a1 : bits .and .u64 ((z1 * 256 + z0) / 16) 4095 = z0 / 16 + z1 * 16 := by rw [m12 _ (by omega) (by omega)]; omega
  have hbw : b < w.heap.size := block_lt_of_cell c0
  go_enter Trym.func14, Trym.ntmps14
  go_wp2
  go_quiet (fail)
  go_wp2
  go_quiet (fail)
  go_wp2
  refine wp_loop_rounds 3 ?_
  rw [rounds_succ]
  go_wp2
  rw [rounds_succ]
  go_wp2
  rw [rounds_succ]
  go_wp2
  exact bodyPost_ret (v := .tuple #[.agg #[.int .u8 0, .int .i64 2, .int .i64 (z0 / 16 + z1 * 16), .int .i64 (z0 / 16 + z1 * 16)], .bool true]) (by simp [results, Trym.results14, go_sem]) rfl ⟨rfl, bel_full _ _ _ _ _ _ _ _⟩

set_option maxRecDepth 100000 in
set_option maxHeartbeats 400000 in
theorem lit_02 (b off len cap : Nat) (w : World) (z0 : Int) (hl : 1 ≤ len) (hm : len ≤ 1048576) (c0 : w.cell? ⟨b, off, none⟩ = some (.int .u8 z0)) (b0 : 0 ≤ z0 ∧ z0 ≤ 255)
    (ht : z0 % 4 = 0) (hs : z0 / 4 % 4 = 2) :
    Calls Trym.prog 14 #[.slice (some ⟨b, off, none⟩) len cap] w fun e w' => e = .returned (.tuple #[.agg #[.int .u8 0, .int .i64 1, .int .i64 (z0 / 8), .int .i64 (z0 / 8)], .bool true]) ∧ Below w.heap.size w w' := by
  have l0 : (0 : Int) < len := by omega
  have k1 : bits .and .u8 z0 3 = 0 := by rw [and3 z0 b0.1 (by omega)]; exact ht
  have k2 : bits .and .u8 (z0 / 4) 3 = 2 := by rw [and3 (z0 / 4) (by omega) (by omega)]; exact hs
  have k3 : bits .and .u8 2 1 = 0 := by decide +kernel
  have i1 : ∀ w, (Instr.index 42 (.agg #[.int .i64 1, .int .i64 2, .int .i64 1, .int .i64 3]) (.int .u8 2)).run Trym.prog w = .ok (.int .i64 1) w := fun _ => by kernel_rfl
  have i2 : ∀ w, (Instr.index 42 (.agg #[.int .i64 5, .int .i64 12, .int .i64 5, .int .i64 20]) (.int .u8 2)).run Trym.prog w = .ok (.int .i64 5) w := fun _ => by kernel_rfl
  have o1 : bits .or .u64 0 z0 = z0 := or0 _ (by omega) (by omega)
  have a1 : bits .and .u64 (z0 / 8) 31 = z0 / 8 := by rw [m5 _ (by omega) (by omega)]; omega
  have hbw : b < w.heap.size := block_lt_of_cell c0
  go_enter Trym.func14, Trym.ntmps14
  go_wp2
  go_quiet (fail)
  go_wp2
  go_quiet (fail)
  go_wp2
  refine wp_loop_rounds 2 ?_
  rw [rounds_succ]
  go_wp2
  rw [rounds_succ]
  go_wp2
  exact bodyPost_ret (v := .tuple #[.agg #[.int .u8 0, .int .i64 1, .int .i64 (z0 / 8), .int .i64 (z0 / 8)], .bool true]) (by simp [results, Trym.results14, go_sem]) rfl ⟨rfl, bel_full _ _ _ _ _ _ _ _⟩

set_option maxRecDepth 100000 in
set_option maxHeartbeats 400000 in
theorem lit_03 (b off len cap : Nat) (w : World) (z0 z1 z2 : Int) (hl : 3 ≤ len) (hm : len ≤ 1048576) (c0 : w.cell? ⟨b, off, none⟩ = some (.int .u8 z0)) (b0 : 0 ≤ z0 ∧ z0 ≤ 255) (c1 : w.cell? ⟨b, off + 1, none⟩ = some (.int .u8 z1)) (b1 : 0 ≤ z1 ∧ z1 ≤ 255) (c2 : w.cell? ⟨b, off + 2, none⟩ = some (.int .u8 z2)) (b2 : 0 ≤ z2 ∧ z2 ≤ 255)
    (ht : z0 % 4 = 0) (hs : z0 / 4 % 4 = 3) :
    Calls Trym.prog 14 #[.slice (some ⟨b, off, none⟩) len cap] w fun e w' => e = .returned (.tuple #[.agg #[.int .u8 0, .int .i64 3, .int .i64 (z0 / 16 + z1 * 16 + z2 * 4096), .int .i64 (z0 / 16 + z1 * 16 + z2 * 4096)], .bool true]) ∧ Below w.heap.size w w' := by
  have l0 : (0 : Int) < len := by omega
  have l1 : (1 : Int) < len := by omega
  have l2 : (2 : Int) < len := by omega
  have k1 : bits .and .u8 z0 3 = 0 := by rw [and3 z0 b0.1 (by omega)]; exact ht
  have k2 : bits .and .u8 (z0 / 4) 3 = 3 := by rw [and3 (z0 / 4) (by omega) (by omega)]; exact hs
  have k3 : bits .and .u8 3 1 = 1 := by decide +kernel
  have i1 : ∀ w, (Instr.index 42 (.agg #[.int .i64 1, .int .i64 2, .int .i64 1, .int .i64 3]) (.int .u8 3)).run Trym.prog w = .ok (.int .i64 3) w := fun _ => by kernel_rfl
  have i2 : ∀ w, (Instr.index 42 (.agg #[.int .i64 5, .int .i64 12, .int .i64 5, .int .i64 20]) (.int .u8 3)).run Trym.prog w = .ok (.int .i64 20) w := fun _ => by kernel_rfl
  have o1 : bits .or .u64 0 z2 = z2 := or0 _ (by omega) (by omega)
  have o2 : bits .or .u64 (z2 * 256) z1 = z2 * 256 + z1 := or8 _ _ (by omega) (by omega) (by omega) (by omega)
  have o3 : bits .or .u64 ((z2 * 256 + z1) * 256) z0 = (z2 * 256 + z1) * 256 + z0 := or8 _ _ (by omega) (by omega) (by omega) (by omega)
  have a1 : bits .and .u64 (((z2 * 256 + z1) * 256 + z0) / 16) 1048575 = z0 / 16 + z1 * 16 + z2 * 4096 := by rw [m20 _ (by omega) (by omega)]; omega
  have hbw : b < w.heap.size := block_lt_of_cell c0
  go_enter Trym.func14, Trym.ntmps14
  go_wp2
  go_quiet (fail)
  go_wp2
  go_quiet (fail)
  go_wp2
  refine wp_loop_rounds 4 ?_
  rw [rounds_succ]
  go_wp2
  rw [rounds_succ]
  go_wp2
  rw [rounds_succ]
  go_wp2
  rw [rounds_succ]
  go_wp2
  exact bodyPost_ret (v := .tuple #[.agg #[.int .u8 0, .int .i64 3, .int .i64 (z0 / 16 + z1 * 16 + z2 * 4096), .int .i64 (z0 / 16 + z1 * 16 + z2 * 4096)], .bool true]) (by simp [results, Trym.results14, go_sem]) rfl ⟨rfl, bel_full _ _ _ _ _ _ _ _⟩

set_option maxRecDepth 100000 in
set_option maxHeartbeats 400000 in
theorem lit_10 (b off len cap : Nat) (w : World) (z0 : Int) (hl : 1 ≤ len) (hm : len ≤ 1048576) (c0 : w.cell? ⟨b, off, none⟩ = some (.int .u8 z0)) (b0 : 0 ≤ z0 ∧ z0 ≤ 255)
    (ht : z0 % 4 = 1) (hs : z0 / 4 % 4 = 0) :
    Calls Trym.prog 14 #[.slice (some ⟨b, off, none⟩) len cap] w fun e w' => e = .returned (.tuple #[.agg #[.int .u8 1, .int .i64 1, .int .i64 (z0 / 8), .int .i64 (1)], .bool true]) ∧ Below w.heap.size w w' := by
  have l0 : (0 : Int) < len := by omega
  have k1 : bits .and .u8 z0 3 = 1 := by rw [and3 z0 b0.1 (by omega)]; exact ht
  have k2 : bits .and .u8 (z0 / 4) 3 = 0 := by rw [and3 (z0 / 4) (by omega) (by omega)]; exact hs
  have k3 : bits .and .u8 0 1 = 0 := by decide +kernel
  have i1 : ∀ w, (Instr.index 42 (.agg #[.int .i64 1, .int .i64 2, .int .i64 1, .int .i64 3]) (.int .u8 0)).run Trym.prog w = .ok (.int .i64 1) w := fun _ => by kernel_rfl
  have i2 : ∀ w, (Instr.index 42 (.agg #[.int .i64 5, .int .i64 12, .int .i64 5, .int .i64 20]) (.int .u8 0)).run Trym.prog w = .ok (.int .i64 5) w := fun _ => by kernel_rfl
  have o1 : bits .or .u64 0 z0 = z0 := or0 _ (by omega) (by omega)
  have a1 : bits .and .u64 (z0 / 8) 31 = z0 / 8 := by rw [m5 _ (by omega) (by omega)]; omega
  have hbw : b < w.heap.size := block_lt_of_cell c0
  go_enter Trym.func14, Trym.ntmps14
  go_wp2
  go_quiet (fail)
  go_wp2
  go_quiet (fail)
  go_wp2
  refine wp_loop_rounds 2 ?_
  rw [rounds_succ]
  go_wp2
  rw [rounds_succ]
  go_wp2
  exact bodyPost_ret (v := .tuple #[.agg #[.int .u8 1, .int .i64 1, .int .i64 (z0 / 8), .int .i64 (1)], .bool true]) (by simp [results, Trym.results14, go_sem]) rfl ⟨rfl, bel_full _ _ _ _ _ _ _ _⟩

set_option maxRecDepth 100000 in
set_option maxHeartbeats 400000 in
theorem lit_11 (b off len cap : Nat) (w : World) (z0 z1 : Int) (hl : 2 ≤ len) (hm : len ≤ 1048576) (c0 : w.cell? ⟨b, off, none⟩ = some (.int .u8 z0)) (b0 : 0 ≤ z0 ∧ z0 ≤ 255) (c1 : w.cell? ⟨b, off + 1, none⟩ = some (.int .u8 z1)) (b1 : 0 ≤ z1 ∧ z1 ≤ 255)
    (ht : z0 % 4 = 1) (hs : z0 / 4 % 4 = 1) :
    Calls Trym.prog 14 #[.slice (some ⟨b, off, none⟩) len cap] w fun e w' => e = .returned (.tuple #[.agg #[.int .u8 1, .int .i64 2, .int .i64 (z0 / 16 + z1 * 16), .int .i64 (1)], .bool true]) ∧ Below w.heap.size w w' := by
  have l0 : (0 : Int) < len := by omega
  have l1 : (1 : Int) < len := by omega
  have k1 : bits .and .u8 z0 3 = 1 := by rw [and3 z0 b0.1 (by omega)]; exact ht
  have k2 : bits .and .u8 (z0 / 4) 3 = 1 := by rw [and3 (z0 / 4) (by omega) (by omega)]; exact hs
  have k3 : bits .and .u8 1 1 = 1 := by decide +kernel
  have i1 : ∀ w, (Instr.index 42 (.agg #[.int .i64 1, .int .i64 2, .int .i64 1, .int .i64 3]) (.int .u8 1)).run Trym.prog w = .ok (.int .i64 2) w := fun _ => by kernel_rfl
  have i2 : ∀ w, (Instr.index 42 (.agg #[.int .i64 5, .int .i64 12, .int .i64 5, .int .i64 20]) (.int .u8 1)).run Trym.prog w = .ok (.int .i64 12) w := fun _ => by kernel_rfl
  have o1 : bits .or .u64 0 z1 = z1 := or0 _ (by omega) (by omega)
  have o2 : bits .or .u64 (z1 * 256) z0 = z1 * 256 + z0 := or8 _ _ (by omega) (by omega) (by omega) (by omega)
  have a1 : bits .and .u64 ((z1 * 256 + z0) / 16) 4095 = z0 / 16 + z1 * 16 := by rw [m12 _ (by omega) (by omega)]; omega
  have hbw : b < w.heap.size := block_lt_of_cell c0
  go_enter Trym.func14, Trym.ntmps14
  go_wp2
  go_quiet (fail)
  go_wp2
  go_quiet (fail)
  go_wp2
  refine wp_loop_rounds 3 ?_
  rw [rounds_succ]
  go_wp2
  rw [rounds_succ]
  go_wp2
  rw [rounds_succ]
  go_wp2
  exact bodyPost_ret (v := .tuple #[.agg #[.int .u8 1, .int .i64 2, .int .i64 (z0 / 16 + z1 * 16), .int .i64 (1)], .bool true]) (by simp [results, Trym.results14, go_sem]) rfl ⟨rfl, bel_full _ _ _ _ _ _ _ _⟩

set_option maxRecDepth 100000 in
set_option maxHeartbeats 400000 in
theorem lit_12 (b off len cap : Nat) (w : World) (z0 : Int) (hl : 1 ≤ len) (hm : len ≤ 1048576) (c0 : w.cell? ⟨b, off, none⟩ = some (.int .u8 z0)) (b0 : 0 ≤ z0 ∧ z0 ≤ 255)
    (ht : z0 % 4 = 1) (hs : z0 / 4 % 4 = 2) :
    Calls Trym.prog 14 #[.slice (some ⟨b, off, none⟩) len cap] w fun e w' => e = .returned (.tuple #[.agg #[.int .u8 1, .int .i64 1, .int .i64 (z0 / 8), .int .i64 (1)], .bool true]) ∧ Below w.heap.size w w' := by
  have l0 : (0 : Int) < len := by omega
  have k1 : bits .and .u8 z0 3 = 1 := by rw [and3 z0 b0.1 (by omega)]; exact ht
  have k2 : bits .and .u8 (z0 / 4) 3 = 2 := by rw [and3 (z0 / 4) (by omega) (by omega)]; exact hs
  have k3 : bits .and .u8 2 1 = 0 := by decide +kernel
  have i1 : ∀ w, (Instr.index 42 (.agg #[.int .i64 1, .int .i64 2, .int .i64 1, .int .i64 3]) (.int .u8 2)).run Trym.prog w = .ok (.int .i64 1) w := fun _ => by kernel_rfl
  have i2 : ∀ w, (Instr.index 42 (.agg #[.int .i64 5, .int .i64 12, .int .i64 5, .int .i64 20]) (.int .u8 2)).run Trym.prog w = .ok (.int .i64 5) w := fun _ => by kernel_rfl
  have o1 : bits .or .u64 0 z0 = z0 := or0 _ (by omega) (by omega)
  have a1 : bits .and .u64 (z0 / 8) 31 = z0 / 8 := by rw [m5 _ (by omega) (by omega)]; omega
  have hbw : b < w.heap.size := block_lt_of_cell c0
  go_enter Trym.func14, Trym.ntmps14
  go_wp2
  go_quiet (fail)
  go_wp2
  go_quiet (fail)
  go_wp2
  refine wp_loop_rounds 2 ?_
  rw [rounds_succ]
  go_wp2
  rw [rounds_succ]
  go_wp2
  exact bodyPost_ret (v := .tuple #[.agg #[.int .u8 1, .int .i64 1, .int .i64 (z0 / 8), .int .i64 (1)], .bool true]) (by simp [results, Trym.results14, go_sem]) rfl ⟨rfl, bel_full _ _ _ _ _ _ _ _⟩

set_option maxRecDepth 100000 in
set_option maxHeartbeats 400000 in
theorem lit_13 (b off len cap : Nat) (w : World) (z0 z1 z2 : Int) (hl : 3 ≤ len) (hm : len ≤ 1048576) (c0 : w.cell? ⟨b, off, none⟩ = some (.int .u8 z0)) (b0 : 0 ≤ z0 ∧ z0 ≤ 255) (c1 : w.cell? ⟨b, off + 1, none⟩ = some (.int .u8 z1)) (b1 : 0 ≤ z1 ∧ z1 ≤ 255) (c2 : w.cell? ⟨b, off + 2, none⟩ = some (.int .u8 z2)) (b2 : 0 ≤ z2 ∧ z2 ≤ 255)
    (ht : z0 % 4 = 1) (hs : z0 / 4 % 4 = 3) :
    Calls Trym.prog 14 #[.slice (some ⟨b, off, none⟩) len cap] w fun e w' => e = .returned (.tuple #[.agg #[.int .u8 1, .int .i64 3, .int .i64 (z0 / 16 + z1 * 16 + z2 * 4096), .int .i64 (1)], .bool true]) ∧ Below w.heap.size w w' := by
  have l0 : (0 : Int) < len := by omega
  have l1 : (1 : Int) < len := by omega
  have l2 : (2 : Int) < len := by omega
  have k1 : bits .and .u8 z0 3 = 1 := by rw [and3 z0 b0.1 (by omega)]; exact ht
  have k2 : bits .and .u8 (z0 / 4) 3 = 3 := by rw [and3 (z0 / 4) (by omega) (by omega)]; exact hs
  have k3 : bits .and .u8 3 1 = 1 := by decide +kernel
  have i1 : ∀ w, (Instr.index 42 (.agg #[.int .i64 1, .int .i64 2, .int .i64 1, .int .i64 3]) (.int .u8 3)).run Trym.prog w = .ok (.int .i64 3) w := fun _ => by kernel_rfl
  have i2 : ∀ w, (Instr.index 42 (.agg #[.int .i64 5, .int .i64 12, .int .i64 5, .int .i64 20]) (.int .u8 3)).run Trym.prog w = .ok (.int .i64 20) w := fun _ => by kernel_rfl
  have o1 : bits .or .u64 0 z2 = z2 := or0 _ (by omega) (by omega)
  have o2 : bits .or .u64 (z2 * 256) z1 = z2 * 256 + z1 := or8 _ _ (by omega) (by omega) (by omega) (by omega)
  have o3 : bits .or .u64 ((z2 * 256 + z1) * 256) z0 = (z2 * 256 + z1) * 256 + z0 := or8 _ _ (by omega) (by omega) (by omega) (by omega)
  have a1 : bits .and .u64 (((z2 * 256 + z1) * 256 + z0) / 16) 1048575 = z0 / 16 + z1 * 16 + z2 * 4096 := by rw [m20 _ (by omega) (by omega)]; omega
  have hbw : b < w.heap.size := block_lt_of_cell c0
  go_enter Trym.func14, Trym.ntmps14
  go_wp2
  go_quiet (fail)
  go_wp2
  go_quiet (fail)
  go_wp2
  refine wp_loop_rounds 4 ?_
  rw [rounds_succ]
  go_wp2
  rw [rounds_succ]
  go_wp2
  rw [rounds_succ]
  go_wp2
  rw [rounds_succ]
  go_wp2
  exact bodyPost_ret (v := .tuple #[.agg #[.int .u8 1, .int .i64 3, .int .i64 (z0 / 16 + z1 * 16 + z2 * 4096), .int .i64 (1)], .bool true]) (by simp [results, Trym.results14, go_sem]) rfl ⟨rfl, bel_full _ _ _ _ _ _ _ _⟩

set_option maxRecDepth 100000 in
set_option maxHeartbeats 400000 in
theorem lit_h0 (b off len cap : Nat) (w : World) (z0 z1 z2 : Int) (hl : 3 ≤ len) (hm : len ≤ 1048576) (c0 : w.cell? ⟨b, off, none⟩ = some (.int .u8 z0)) (b0 : 0 ≤ z0 ∧ z0 ≤ 255) (c1 : w.cell? ⟨b, off + 1, none⟩ = some (.int .u8 z1)) (b1 : 0 ≤ z1 ∧ z1 ≤ 255) (c2 : w.cell? ⟨b, off + 2, none⟩ = some (.int .u8 z2)) (b2 : 0 ≤ z2 ∧ z2 ≤ 255)
    (ht : 2 ≤ z0 % 4) (hs : z0 / 4 % 4 = 0) :
    Calls Trym.prog 14 #[.slice (some ⟨b, off, none⟩) len cap] w fun e w' => e = .returned (.tuple #[.agg #[.int .u8 (z0 % 4), .int .i64 3, .int .i64 (z0 / 16 + z1 % 64 * 16), .int .i64 (z1 / 64 + z2 * 4)], .bool true]) ∧ Below w.heap.size w w' := by
  have l0 : (0 : Int) < len := by omega
  have l1 : (1 : Int) < len := by omega
  have l2 : (2 : Int) < len := by omega
  have k1 : bits .and .u8 z0 3 = z0 % 4 := by rw [and3 z0 b0.1 (by omega)]
  have k2 : bits .and .u8 (z0 / 4) 3 = 0 := by rw [and3 (z0 / 4) (by omega) (by omega)]; exact hs
  have k3 : bits .and .u8 0 1 = 0 := by decide +kernel
  have i1 : ∀ w, (Instr.index 42 (.agg #[.int .i64 1, .int .i64 2, .int .i64 1, .int .i64 3]) (.int .u8 0)).run Trym.prog w = .ok (.int .i64 1) w := fun _ => by kernel_rfl
  have i2 : ∀ w, (Instr.index 42 (.agg #[.int .i64 5, .int .i64 12, .int .i64 5, .int .i64 20]) (.int .u8 0)).run Trym.prog w = .ok (.int .i64 5) w := fun _ => by kernel_rfl
  have i3 : ∀ w, (Instr.index 42 (.agg #[.int .i64 3, .int .i64 3, .int .i64 4, .int .i64 5]) (.int .u8 0)).run Trym.prog w = .ok (.int .i64 3) w := fun _ => by kernel_rfl
  have i4 : ∀ w, (Instr.index 42 (.agg #[.int .i64 10, .int .i64 10, .int .i64 14, .int .i64 18]) (.int .u8 0)).run Trym.prog w = .ok (.int .i64 10) w := fun _ => by kernel_rfl
  have o1 : bits .or .u64 0 z2 = z2 := or0 _ (by omega) (by omega)
  have o2 : bits .or .u64 (z2 * 256) z1 = z2 * 256 + z1 := or8 _ _ (by omega) (by omega) (by omega) (by omega)
  have o3 : bits .or .u64 ((z2 * 256 + z1) * 256) z0 = (z2 * 256 + z1) * 256 + z0 := or8 _ _ (by omega) (by omega) (by omega) (by omega)
  have a1 : bits .and .u64 (((z2 * 256 + z1) * 256 + z0) / 16) 1023 = z0 / 16 + z1 % 64 * 16 := by rw [m10 _ (by omega) (by omega)]; omega
  have a2 : ((z2 * 256 + z1) * 256 + z0) / 16 / 1024 = z1 / 64 + z2 * 4 := by omega
  have hbw : b < w.heap.size := block_lt_of_cell c0
  go_enter Trym.func14, Trym.ntmps14
  go_wp2
  go_quiet (fail)
  go_wp2
  go_quiet (fail)
  go_wp2
  go_quiet (fail)
  go_wp2
  refine wp_loop_rounds 4 ?_
  rw [rounds_succ]
  go_wp2
  rw [rounds_succ]
  go_wp2
  rw [rounds_succ]
  go_wp2
  rw [rounds_succ]
  go_wp2
  exact bodyPost_ret (v := .tuple #[.agg #[.int .u8 (z0 % 4), .int .i64 3, .int .i64 (z0 / 16 + z1 % 64 * 16), .int .i64 (z1 / 64 + z2 * 4)], .bool true]) (by simp [results, Trym.results14, go_sem]) rfl ⟨rfl, bel_full _ _ _ _ _ _ _ _⟩

set_option maxRecDepth 100000 in
set_option maxHeartbeats 400000 in
theorem lit_h1 (b off len cap : Nat) (w : World) (z0 z1 z2 : Int) (hl : 3 ≤ len) (hm : len ≤ 1048576) (c0 : w.cell? ⟨b, off, none⟩ = some (.int .u8 z0)) (b0 : 0 ≤ z0 ∧ z0 ≤ 255) (c1 : w.cell? ⟨b, off + 1, none⟩ = some (.int .u8 z1)) (b1 : 0 ≤ z1 ∧ z1 ≤ 255) (c2 : w.cell? ⟨b, off + 2, none⟩ = some (.int .u8 z2)) (b2 : 0 ≤ z2 ∧ z2 ≤ 255)
    (ht : 2 ≤ z0 % 4) (hs : z0 / 4 % 4 = 1) :
    Calls Trym.prog 14 #[.slice (some ⟨b, off, none⟩) len cap] w fun e w' => e = .returned (.tuple #[.agg #[.int .u8 (z0 % 4), .int .i64 3, .int .i64 (z0 / 16 + z1 % 64 * 16), .int .i64 (z1 / 64 + z2 * 4)], .bool true]) ∧ Below w.heap.size w w' := by
  have l0 : (0 : Int) < len := by omega
  have l1 : (1 : Int) < len := by omega
  have l2 : (2 : Int) < len := by omega
  have k1 : bits .and .u8 z0 3 = z0 % 4 := by rw [and3 z0 b0.1 (by omega)]
  have k2 : bits .and .u8 (z0 / 4) 3 = 1 := by rw [and3 (z0 / 4) (by omega) (by omega)]; exact hs
  have k3 : bits .and .u8 1 1 = 1 := by decide +kernel
  have i1 : ∀ w, (Instr.index 42 (.agg #[.int .i64 1, .int .i64 2, .int .i64 1, .int .i64 3]) (.int .u8 1)).run Trym.prog w = .ok (.int .i64 2) w := fun _ => by kernel_rfl
  have i2 : ∀ w, (Instr.index 42 (.agg #[.int .i64 5, .int .i64 12, .int .i64 5, .int .i64 20]) (.int .u8 1)).run Trym.prog w = .ok (.int .i64 12) w := fun _ => by kernel_rfl
  have i3 : ∀ w, (Instr.index 42 (.agg #[.int .i64 3, .int .i64 3, .int .i64 4, .int .i64 5]) (.int .u8 1)).run Trym.prog w = .ok (.int .i64 3) w := fun _ => by kernel_rfl
  have i4 : ∀ w, (Instr.index 42 (.agg #[.int .i64 10, .int .i64 10, .int .i64 14, .int .i64 18]) (.int .u8 1)).run Trym.prog w = .ok (.int .i64 10) w := fun _ => by kernel_rfl
  have o1 : bits .or .u64 0 z2 = z2 := or0 _ (by omega) (by omega)
  have o2 : bits .or .u64 (z2 * 256) z1 = z2 * 256 + z1 := or8 _ _ (by omega) (by omega) (by omega) (by omega)
  have o3 : bits .or .u64 ((z2 * 256 + z1) * 256) z0 = (z2 * 256 + z1) * 256 + z0 := or8 _ _ (by omega) (by omega) (by omega) (by omega)
  have a1 : bits .and .u64 (((z2 * 256 + z1) * 256 + z0) / 16) 1023 = z0 / 16 + z1 % 64 * 16 := by rw [m10 _ (by omega) (by omega)]; omega
  have a2 : ((z2 * 256 + z1) * 256 + z0) / 16 / 1024 = z1 / 64 + z2 * 4 := by omega
  have hbw : b < w.heap.size := block_lt_of_cell c0
  go_enter Trym.func14, Trym.ntmps14
  go_wp2
  go_quiet (fail)
  go_wp2
  go_quiet (fail)
  go_wp2
  go_quiet (fail)
  go_wp2
  refine wp_loop_rounds 4 ?_
  rw [rounds_succ]
  go_wp2
  rw [rounds_succ]
  go_wp2
  rw [rounds_succ]
  go_wp2
  rw [rounds_succ]
  go_wp2
  exact bodyPost_ret (v := .tuple #[.agg #[.int .u8 (z0 % 4), .int .i64 3, .int .i64 (z0 / 16 + z1 % 64 * 16), .int .i64 (z1 / 64 + z2 * 4)], .bool true]) (by simp [results, Trym.results14, go_sem]) rfl ⟨rfl, bel_full _ _ _ _ _ _ _ _⟩

set_option maxRecDepth 100000 in
set_option maxHeartbeats 400000 in
theorem lit_h2 (b off len cap : Nat) (w : World) (z0 z1 z2 z3 : Int) (hl : 4 ≤ len) (hm : len ≤ 1048576) (c0 : w.cell? ⟨b, off, none⟩ = some (.int .u8 z0)) (b0 : 0 ≤ z0 ∧ z0 ≤ 255) (c1 : w.cell? ⟨b, off + 1, none⟩ = some (.int .u8 z1)) (b1 : 0 ≤ z1 ∧ z1 ≤ 255) (c2 : w.cell? ⟨b, off + 2, none⟩ = some (.int .u8 z2)) (b2 : 0 ≤ z2 ∧ z2 ≤ 255) (c3 : w.cell? ⟨b, off + 3, none⟩ = some (.int .u8 z3)) (b3 : 0 ≤ z3 ∧ z3 ≤ 255)
    (ht : 2 ≤ z0 % 4) (hs : z0 / 4 % 4 = 2) :
    Calls Trym.prog 14 #[.slice (some ⟨b, off, none⟩) len cap] w fun e w' => e = .returned (.tuple #[.agg #[.int .u8 (z0 % 4), .int .i64 4, .int .i64 (z0 / 16 + z1 * 16 + z2 % 4 * 4096), .int .i64 (z2 / 4 + z3 * 64)], .bool true]) ∧ Below w.heap.size w w' := by
  have l0 : (0 : Int) < len := by omega
  have l1 : (1 : Int) < len := by omega
  have l2 : (2 : Int) < len := by omega
  have l3 : (3 : Int) < len := by omega
  have k1 : bits .and .u8 z0 3 = z0 % 4 := by rw [and3 z0 b0.1 (by omega)]
  have k2 : bits .and .u8 (z0 / 4) 3 = 2 := by rw [and3 (z0 / 4) (by omega) (by omega)]; exact hs
  have k3 : bits .and .u8 2 1 = 0 := by decide +kernel
  have i1 : ∀ w, (Instr.index 42 (.agg #[.int .i64 1, .int .i64 2, .int .i64 1, .int .i64 3]) (.int .u8 2)).run Trym.prog w = .ok (.int .i64 1) w := fun _ => by kernel_rfl
  have i2 : ∀ w, (Instr.index 42 (.agg #[.int .i64 5, .int .i64 12, .int .i64 5, .int .i64 20]) (.int .u8 2)).run Trym.prog w = .ok (.int .i64 5) w := fun _ => by kernel_rfl
  have i3 : ∀ w, (Instr.index 42 (.agg #[.int .i64 3, .int .i64 3, .int .i64 4, .int .i64 5]) (.int .u8 2)).run Trym.prog w = .ok (.int .i64 4) w := fun _ => by kernel_rfl
  have i4 : ∀ w, (Instr.index 42 (.agg #[.int .i64 10, .int .i64 10, .int .i64 14, .int .i64 18]) (.int .u8 2)).run Trym.prog w = .ok (.int .i64 14) w := fun _ => by kernel_rfl
  have o1 : bits .or .u64 0 z3 = z3 := or0 _ (by omega) (by omega)
  have o2 : bits .or .u64 (z3 * 256) z2 = z3 * 256 + z2 := or8 _ _ (by omega) (by omega) (by omega) (by omega)
  have o3 : bits .or .u64 ((z3 * 256 + z2) * 256) z1 = (z3 * 256 + z2) * 256 + z1 := or8 _ _ (by omega) (by omega) (by omega) (by omega)
  have o4 : bits .or .u64 (((z3 * 256 + z2) * 256 + z1) * 256) z0 = ((z3 * 256 + z2) * 256 + z1) * 256 + z0 := or8 _ _ (by omega) (by omega) (by omega) (by omega)
  have a1 : bits .and .u64 ((((z3 * 256 + z2) * 256 + z1) * 256 + z0) / 16) 16383 = z0 / 16 + z1 * 16 + z2 % 4 * 4096 := by rw [m14 _ (by omega) (by omega)]; omega
  have a2 : (((z3 * 256 + z2) * 256 + z1) * 256 + z0) / 16 / 16384 = z2 / 4 + z3 * 64 := by omega
  have hbw : b < w.heap.size := block_lt_of_cell c0
  go_enter Trym.func14, Trym.ntmps14
  go_wp2
  go_quiet (fail)
  go_wp2
  go_quiet (fail)
  go_wp2
  go_quiet (fail)
  go_wp2
  refine wp_loop_rounds 5 ?_
  rw [rounds_succ]
  go_wp2
  rw [rounds_succ]
  go_wp2
  rw [rounds_succ]
  go_wp2
  rw [rounds_succ]
  go_wp2
  rw [rounds_succ]
  go_wp2
  exact bodyPost_ret (v := .tuple #[.agg #[.int .u8 (z0 % 4), .int .i64 4, .int .i64 (z0 / 16 + z1 * 16 + z2 % 4 * 4096), .int .i64 (z2 / 4 + z3 * 64)], .bool true]) (by simp [results, Trym.results14, go_sem]) rfl ⟨rfl, bel_full _ _ _ _ _ _ _ _⟩

set_option maxRecDepth 100000 in
set_option maxHeartbeats 400000 in
theorem lit_h3 (b off len cap : Nat) (w : World) (z0 z1 z2 z3 z4 : Int) (hl : 5 ≤ len) (hm : len ≤ 1048576) (c0 : w.cell? ⟨b, off, none⟩ = some (.int .u8 z0)) (b0 : 0 ≤ z0 ∧ z0 ≤ 255) (c1 : w.cell? ⟨b, off + 1, none⟩ = some (.int .u8 z1)) (b1 : 0 ≤ z1 ∧ z1 ≤ 255) (c2 : w.cell? ⟨b, off + 2, none⟩ = some (.int .u8 z2)) (b2 : 0 ≤ z2 ∧ z2 ≤ 255) (c3 : w.cell? ⟨b, off + 3, none⟩ = some (.int .u8 z3)) (b3 : 0 ≤ z3 ∧ z3 ≤ 255) (c4 : w.cell? ⟨b, off + 4, none⟩ = some (.int .u8 z4)) (b4 : 0 ≤ z4 ∧ z4 ≤ 255)
    (ht : 2 ≤ z0 % 4) (hs : z0 / 4 % 4 = 3) :
    Calls Trym.prog 14 #[.slice (some ⟨b, off, none⟩) len cap] w fun e w' => e = .returned (.tuple #[.agg #[.int .u8 (z0 % 4), .int .i64 5, .int .i64 (z0 / 16 + z1 * 16 + z2 % 64 * 4096), .int .i64 (z2 / 64 + z3 * 4 + z4 * 1024)], .bool true]) ∧ Below w.heap.size w w' := by
  have l0 : (0 : Int) < len := by omega
  have l1 : (1 : Int) < len := by omega
  have l2 : (2 : Int) < len := by omega
  have l3 : (3 : Int) < len := by omega
  have l4 : (4 : Int) < len := by omega
  have k1 : bits .and .u8 z0 3 = z0 % 4 := by rw [and3 z0 b0.1 (by omega)]
  have k2 : bits .and .u8 (z0 / 4) 3 = 3 := by rw [and3 (z0 / 4) (by omega) (by omega)]; exact hs
  have k3 : bits .and .u8 3 1 = 1 := by decide +kernel
  have i1 : ∀ w, (Instr.index 42 (.agg #[.int .i64 1, .int .i64 2, .int .i64 1, .int .i64 3]) (.int .u8 3)).run Trym.prog w = .ok (.int .i64 3) w := fun _ => by kernel_rfl
  have i2 : ∀ w, (Instr.index 42 (.agg #[.int .i64 5, .int .i64 12, .int .i64 5, .int .i64 20]) (.int .u8 3)).run Trym.prog w = .ok (.int .i64 20) w := fun _ => by kernel_rfl
  have i3 : ∀ w, (Instr.index 42 (.agg #[.int .i64 3, .int .i64 3, .int .i64 4, .int .i64 5]) (.int .u8 3)).run Trym.prog w = .ok (.int .i64 5) w := fun _ => by kernel_rfl
  have i4 : ∀ w, (Instr.index 42 (.agg #[.int .i64 10, .int .i64 10, .int .i64 14, .int .i64 18]) (.int .u8 3)).run Trym.prog w = .ok (.int .i64 18) w := fun _ => by kernel_rfl
  have o1 : bits .or .u64 0 z4 = z4 := or0 _ (by omega) (by omega)
  have o2 : bits .or .u64 (z4 * 256) z3 = z4 * 256 + z3 := or8 _ _ (by omega) (by omega) (by omega) (by omega)
  have o3 : bits .or .u64 ((z4 * 256 + z3) * 256) z2 = (z4 * 256 + z3) * 256 + z2 := or8 _ _ (by omega) (by omega) (by omega) (by omega)
  have o4 : bits .or .u64 (((z4 * 256 + z3) * 256 + z2) * 256) z1 = ((z4 * 256 + z3) * 256 + z2) * 256 + z1 := or8 _ _ (by omega) (by omega) (by omega) (by omega)
  have o5 : bits .or .u64 ((((z4 * 256 + z3) * 256 + z2) * 256 + z1) * 256) z0 = (((z4 * 256 + z3) * 256 + z2) * 256 + z1) * 256 + z0 := or8 _ _ (by omega) (by omega) (by omega) (by omega)
  have a1 : bits .and .u64 (((((z4 * 256 + z3) * 256 + z2) * 256 + z1) * 256 + z0) / 16) 262143 = z0 / 16 + z1 * 16 + z2 % 64 * 4096 := by rw [m18 _ (by omega) (by omega)]; omega
  have a2 : ((((z4 * 256 + z3) * 256 + z2) * 256 + z1) * 256 + z0) / 16 / 262144 = z2 / 64 + z3 * 4 + z4 * 1024 := by omega
  have hbw : b < w.heap.size := block_lt_of_cell c0
  go_enter Trym.func14, Trym.ntmps14
  go_wp2
  go_quiet (fail)
  go_wp2
  go_quiet (fail)
  go_wp2
  go_quiet (fail)
  go_wp2
  refine wp_loop_rounds 6 ?_
  rw [rounds_succ]
  go_wp2
  rw [rounds_succ]
  go_wp2
  rw [rounds_succ]
  go_wp2
  rw [rounds_succ]
  go_wp2
  rw [rounds_succ]
  go_wp2
  rw [rounds_succ]
  go_wp2
  exact bodyPost_ret (v := .tuple #[.agg #[.int .u8 (z0 % 4), .int .i64 5, .int .i64 (z0 / 16 + z1 * 16 + z2 % 64 * 4096), .int .i64 (z2 / 64 + z3 * 4 + z4 * 1024)], .bool true]) (by simp [results, Trym.results14, go_sem]) rfl ⟨rfl, bel_full _ _ _ _ _ _ _ _⟩

set_option maxRecDepth 100000 in
set_option maxHeartbeats 400000 in
theorem lits_01 (b off len cap : Nat) (w : World) (z0 : Int) (h0 : 1 ≤ len) (hl : (len : Int) < 2) (hm : len ≤ 1048576) (c0 : w.cell? ⟨b, off, none⟩ = some (.int .u8 z0)) (b0 : 0 ≤ z0 ∧ z0 ≤ 255)
    (ht : z0 % 4 = 0) (hs : z0 / 4 % 4 = 1) :
    Calls Trym.prog 14 #[.slice (some ⟨b, off, none⟩) len cap] w fun e w' => e = .returned (noA) ∧ Below w.heap.size w w' := by
  have l0 : (0 : Int) < len := by omega
  have k1 : bits .and .u8 z0 3 = 0 := by rw [and3 z0 b0.1 (by omega)]; exact ht
  have k2 : bits .and .u8 (z0 / 4) 3 = 1 := by rw [and3 (z0 / 4) (by omega) (by omega)]; exact hs
  have k3 : bits .and .u8 1 1 = 1 := by decide +kernel
  have i1 : ∀ w, (Instr.index 42 (.agg #[.int .i64 1, .int .i64 2, .int .i64 1, .int .i64 3]) (.int .u8 1)).run Trym.prog w = .ok (.int .i64 2) w := fun _ => by kernel_rfl
  have i2 : ∀ w, (Instr.index 42 (.agg #[.int .i64 5, .int .i64 12, .int .i64 5, .int .i64 20]) (.int .u8 1)).run Trym.prog w = .ok (.int .i64 12) w := fun _ => by kernel_rfl
  have hbw : b < w.heap.size := block_lt_of_cell c0
  go_enter Trym.func14, Trym.ntmps14
  go_wp2
  go_quiet (fail)
  go_wp2
  go_quiet (fail)
  go_wp2
  exact bodyPost_ret (v := noA) (by simp [noA, results, Trym.results14, go_sem]) rfl ⟨rfl, bel_short _ _ _ _ _ _ _⟩

set_option maxRecDepth 100000 in
set_option maxHeartbeats 400000 in
theorem lits_03 (b off len cap : Nat) (w : World) (z0 : Int) (h0 : 1 ≤ len) (hl : (len : Int) < 3) (hm : len ≤ 1048576) (c0 : w.cell? ⟨b, off, none⟩ = some (.int .u8 z0)) (b0 : 0 ≤ z0 ∧ z0 ≤ 255)
    (ht : z0 % 4 = 0) (hs : z0 / 4 % 4 = 3) :
    Calls Trym.prog 14 #[.slice (some ⟨b, off, none⟩) len cap] w fun e w' => e = .returned (noA) ∧ Below w.heap.size w w' := by
  have l0 : (0 : Int) < len := by omega
  have k1 : bits .and .u8 z0 3 = 0 := by rw [and3 z0 b0.1 (by omega)]; exact ht
  have k2 : bits .and .u8 (z0 / 4) 3 = 3 := by rw [and3 (z0 / 4) (by omega) (by omega)]; exact hs
  have k3 : bits .and .u8 3 1 = 1 := by decide +kernel
  have i1 : ∀ w, (Instr.index 42 (.agg #[.int .i64 1, .int .i64 2, .int .i64 1, .int .i64 3]) (.int .u8 3)).run Trym.prog w = .ok (.int .i64 3) w := fun _ => by kernel_rfl
  have i2 : ∀ w, (Instr.index 42 (.agg #[.int .i64 5, .int .i64 12, .int .i64 5, .int .i64 20]) (.int .u8 3)).run Trym.prog w = .ok (.int .i64 20) w := fun _ => by kernel_rfl
  have hbw : b < w.heap.size := block_lt_of_cell c0
  go_enter Trym.func14, Trym.ntmps14
  go_wp2
  go_quiet (fail)
  go_wp2
  go_quiet (fail)
  go_wp2
  exact bodyPost_ret (v := noA) (by simp [noA, results, Trym.results14, go_sem]) rfl ⟨rfl, bel_short _ _ _ _ _ _ _⟩

set_option maxRecDepth 100000 in
set_option maxHeartbeats 400000 in
theorem lits_11 (b off len cap : Nat) (w : World) (z0 : Int) (h0 : 1 ≤ len) (hl : (len : Int) < 2) (hm : len ≤ 1048576) (c0 : w.cell? ⟨b, off, none⟩ = some (.int .u8 z0)) (b0 : 0 ≤ z0 ∧ z0 ≤ 255)
    (ht : z0 % 4 = 1) (hs : z0 / 4 % 4 = 1) :
    Calls Trym.prog 14 #[.slice (some ⟨b, off, none⟩) len cap] w fun e w' => e = .returned (noA) ∧ Below w.heap.size w w' := by
  have l0 : (0 : Int) < len := by omega
  have k1 : bits .and .u8 z0 3 = 1 := by rw [and3 z0 b0.1 (by omega)]; exact ht
  have k2 : bits .and .u8 (z0 / 4) 3 = 1 := by rw [and3 (z0 / 4) (by omega) (by omega)]; exact hs
  have k3 : bits .and .u8 1 1 = 1 := by decide +kernel
  have i1 : ∀ w, (Instr.index 42 (.agg #[.int .i64 1, .int .i64 2, .int .i64 1, .int .i64 3]) (.int .u8 1)).run Trym.prog w = .ok (.int .i64 2) w := fun _ => by kernel_rfl
  have i2 : ∀ w, (Instr.index 42 (.agg #[.int .i64 5, .int .i64 12, .int .i64 5, .int .i64 20]) (.int .u8 1)).run Trym.prog w = .ok (.int .i64 12) w := fun _ => by kernel_rfl
  have hbw : b < w.heap.size := block_lt_of_cell c0
  go_enter Trym.func14, Trym.ntmps14
  go_wp2
  go_quiet (fail)
  go_wp2
  go_quiet (fail)
  go_wp2
  exact bodyPost_ret (v := noA) (by simp [noA, results, Trym.results14, go_sem]) rfl ⟨rfl, bel_short _ _ _ _ _ _ _⟩

set_option maxRecDepth 100000 in
set_option maxHeartbeats 400000 in
theorem lits_13 (b off len cap : Nat) (w : World) (z0 : Int) (h0 : 1 ≤ len) (hl : (len : Int) < 3) (hm : len ≤ 1048576) (c0 : w.cell? ⟨b, off, none⟩ = some (.int .u8 z0)) (b0 : 0 ≤ z0 ∧ z0 ≤ 255)
    (ht : z0 % 4 = 1) (hs : z0 / 4 % 4 = 3) :
    Calls Trym.prog 14 #[.slice (some ⟨b, off, none⟩) len cap] w fun e w' => e = .returned (noA) ∧ Below w.heap.size w w' := by
  have l0 : (0 : Int) < len := by omega
  have k1 : bits .and .u8 z0 3 = 1 := by rw [and3 z0 b0.1 (by omega)]; exact ht
  have k2 : bits .and .u8 (z0 / 4) 3 = 3 := by rw [and3 (z0 / 4) (by omega) (by omega)]; exact hs
  have k3 : bits .and .u8 3 1 = 1 := by decide +kernel
  have i1 : ∀ w, (Instr.index 42 (.agg #[.int .i64 1, .int .i64 2, .int .i64 1, .int .i64 3]) (.int .u8 3)).run Trym.prog w = .ok (.int .i64 3) w := fun _ => by kernel_rfl
  have i2 : ∀ w, (Instr.index 42 (.agg #[.int .i64 5, .int .i64 12, .int .i64 5, .int .i64 20]) (.int .u8 3)).run Trym.prog w = .ok (.int .i64 20) w := fun _ => by kernel_rfl
  have hbw : b < w.heap.size := block_lt_of_cell c0
  go_enter Trym.func14, Trym.ntmps14
  go_wp2
  go_quiet (fail)
  go_wp2
  go_quiet (fail)
  go_wp2
  exact bodyPost_ret (v := noA) (by simp [noA, results, Trym.results14, go_sem]) rfl ⟨rfl, bel_short _ _ _ _ _ _ _⟩

set_option maxRecDepth 100000 in
set_option maxHeartbeats 400000 in
theorem lits_h0 (b off len cap : Nat) (w : World) (z0 : Int) (h0 : 1 ≤ len) (hl : (len : Int) < 3) (hm : len ≤ 1048576) (c0 : w.cell? ⟨b, off, none⟩ = some (.int .u8 z0)) (b0 : 0 ≤ z0 ∧ z0 ≤ 255)
    (ht : 2 ≤ z0 % 4) (hs : z0 / 4 % 4 = 0) :
    Calls Trym.prog 14 #[.slice (some ⟨b, off, none⟩) len cap] w fun e w' => e = .returned (noA) ∧ Below w.heap.size w w' := by
  have l0 : (0 : Int) < len := by omega
  have k1 : bits .and .u8 z0 3 = z0 % 4 := by rw [and3 z0 b0.1 (by omega)]
  have k2 : bits .and .u8 (z0 / 4) 3 = 0 := by rw [and3 (z0 / 4) (by omega) (by omega)]; exact hs
  have k3 : bits .and .u8 0 1 = 0 := by decide +kernel
  have i1 : ∀ w, (Instr.index 42 (.agg #[.int .i64 1, .int .i64 2, .int .i64 1, .int .i64 3]) (.int .u8 0)).run Trym.prog w = .ok (.int .i64 1) w := fun _ => by kernel_rfl
  have i2 : ∀ w, (Instr.index 42 (.agg #[.int .i64 5, .int .i64 12, .int .i64 5, .int .i64 20]) (.int .u8 0)).run Trym.prog w = .ok (.int .i64 5) w := fun _ => by kernel_rfl
  have i3 : ∀ w, (Instr.index 42 (.agg #[.int .i64 3, .int .i64 3, .int .i64 4, .int .i64 5]) (.int .u8 0)).run Trym.prog w = .ok (.int .i64 3) w := fun _ => by kernel_rfl
  have i4 : ∀ w, (Instr.index 42 (.agg #[.int .i64 10, .int .i64 10, .int .i64 14, .int .i64 18]) (.int .u8 0)).run Trym.prog w = .ok (.int .i64 10) w := fun _ => by kernel_rfl
  have hbw : b < w.heap.size := block_lt_of_cell c0
  go_enter Trym.func14, Trym.ntmps14
  go_wp2
  go_quiet (fail)
  go_wp2
  go_quiet (fail)
  go_wp2
  go_quiet (fail)
  go_wp2
  exact bodyPost_ret (v := noA) (by simp [noA, results, Trym.results14, go_sem]) rfl ⟨rfl, bel_short _ _ _ _ _ _ _⟩

set_option maxRecDepth 100000 in
set_option maxHeartbeats 400000 in
theorem lits_h1 (b off len cap : Nat) (w : World) (z0 : Int) (h0 : 1 ≤ len) (hl : (len : Int) < 3) (hm : len ≤ 1048576) (c0 : w.cell? ⟨b, off, none⟩ = some (.int .u8 z0)) (b0 : 0 ≤ z0 ∧ z0 ≤ 255)
    (ht : 2 ≤ z0 % 4) (hs : z0 / 4 % 4 = 1) :
    Calls Trym.prog 14 #[.slice (some ⟨b, off, none⟩) len cap] w fun e w' => e = .returned (noA) ∧ Below w.heap.size w w' := by
  have l0 : (0 : Int) < len := by omega
  have k1 : bits .and .u8 z0 3 = z0 % 4 := by rw [and3 z0 b0.1 (by omega)]
  have k2 : bits .and .u8 (z0 / 4) 3 = 1 := by rw [and3 (z0 / 4) (by omega) (by omega)]; exact hs
  have k3 : bits .and .u8 1 1 = 1 := by decide +kernel
  have i1 : ∀ w, (Instr.index 42 (.agg #[.int .i64 1, .int .i64 2, .int .i64 1, .int .i64 3]) (.int .u8 1)).run Trym.prog w = .ok (.int .i64 2) w := fun _ => by kernel_rfl
  have i2 : ∀ w, (Instr.index 42 (.agg #[.int .i64 5, .int .i64 12, .int .i64 5, .int .i64 20]) (.int .u8 1)).run Trym.prog w = .ok (.int .i64 12) w := fun _ => by kernel_rfl
  have i3 : ∀ w, (Instr.index 42 (.agg #[.int .i64 3, .int .i64 3, .int .i64 4, .int .i64 5]) (.int .u8 1)).run Trym.prog w = .ok (.int .i64 3) w := fun _ => by kernel_rfl
  have i4 : ∀ w, (Instr.index 42 (.agg #[.int .i64 10, .int .i64 10, .int .i64 14, .int .i64 18]) (.int .u8 1)).run Trym.prog w = .ok (.int .i64 10) w := fun _ => by kernel_rfl
  have hbw : b < w.heap.size := block_lt_of_cell c0
  go_enter Trym.func14, Trym.ntmps14
  go_wp2
  go_quiet (fail)
  go_wp2
  go_quiet (fail)
  go_wp2
  go_quiet (fail)
  go_wp2
  exact bodyPost_ret (v := noA) (by simp [noA, results, Trym.results14, go_sem]) rfl ⟨rfl, bel_short _ _ _ _ _ _ _⟩

set_option maxRecDepth 100000 in
set_option maxHeartbeats 400000 in
theorem lits_h2 (b off len cap : Nat) (w : World) (z0 : Int) (h0 : 1 ≤ len) (hl : (len : Int) < 4) (hm : len ≤ 1048576) (c0 : w.cell? ⟨b, off, none⟩ = some (.int .u8 z0)) (b0 : 0 ≤ z0 ∧ z0 ≤ 255)
    (ht : 2 ≤ z0 % 4) (hs : z0 / 4 % 4 = 2) :
    Calls Trym.prog 14 #[.slice (some ⟨b, off, none⟩) len cap] w fun e w' => e = .returned (noA) ∧ Below w.heap.size w w' := by
  have l0 : (0 : Int) < len := by omega
  have k1 : bits .and .u8 z0 3 = z0 % 4 := by rw [and3 z0 b0.1 (by omega)]
  have k2 : bits .and .u8 (z0 / 4) 3 = 2 := by rw [and3 (z0 / 4) (by omega) (by omega)]; exact hs
  have k3 : bits .and .u8 2 1 = 0 := by decide +kernel
  have i1 : ∀ w, (Instr.index 42 (.agg #[.int .i64 1, .int .i64 2, .int .i64 1, .int .i64 3]) (.int .u8 2)).run Trym.prog w = .ok (.int .i64 1) w := fun _ => by kernel_rfl
  have i2 : ∀ w, (Instr.index 42 (.agg #[.int .i64 5, .int .i64 12, .int .i64 5, .int .i64 20]) (.int .u8 2)).run Trym.prog w = .ok (.int .i64 5) w := fun _ => by kernel_rfl
  have i3 : ∀ w, (Instr.index 42 (.agg #[.int .i64 3, .int .i64 3, .int .i64 4, .int .i64 5]) (.int .u8 2)).run Trym.prog w = .ok (.int .i64 4) w := fun _ => by kernel_rfl
  have i4 : ∀ w, (Instr.index 42 (.agg #[.int .i64 10, .int .i64 10, .int .i64 14, .int .i64 18]) (.int .u8 2)).run Trym.prog w = .ok (.int .i64 14) w := fun _ => by kernel_rfl
  have hbw : b < w.heap.size := block_lt_of_cell c0
  go_enter Trym.func14, Trym.ntmps14
  go_wp2
  go_quiet (fail)
  go_wp2
  go_quiet (fail)
  go_wp2
  go_quiet (fail)
  go_wp2
  exact bodyPost_ret (v := noA) (by simp [noA, results, Trym.results14, go_sem]) rfl ⟨rfl, bel_short _ _ _ _ _ _ _⟩

set_option maxRecDepth 100000 in
set_option maxHeartbeats 400000 in
theorem lits_h3 (b off len cap : Nat) (w : World) (z0 : Int) (h0 : 1 ≤ len) (hl : (len : Int) < 5) (hm : len ≤ 1048576) (c0 : w.cell? ⟨b, off, none⟩ = some (.int .u8 z0)) (b0 : 0 ≤ z0 ∧ z0 ≤ 255)
    (ht : 2 ≤ z0 % 4) (hs : z0 / 4 % 4 = 3) :
    Calls Trym.prog 14 #[.slice (some ⟨b, off, none⟩) len cap] w fun e w' => e = .returned (noA) ∧ Below w.heap.size w w' := by
  have l0 : (0 : Int) < len := by omega
  have k1 : bits .and .u8 z0 3 = z0 % 4 := by rw [and3 z0 b0.1 (by omega)]
  have k2 : bits .and .u8 (z0 / 4) 3 = 3 := by rw [and3 (z0 / 4) (by omega) (by omega)]; exact hs
  have k3 : bits .and .u8 3 1 = 1 := by decide +kernel
  have i1 : ∀ w, (Instr.index 42 (.agg #[.int .i64 1, .int .i64 2, .int .i64 1, .int .i64 3]) (.int .u8 3)).run Trym.prog w = .ok (.int .i64 3) w := fun _ => by kernel_rfl
  have i2 : ∀ w, (Instr.index 42 (.agg #[.int .i64 5, .int .i64 12, .int .i64 5, .int .i64 20]) (.int .u8 3)).run Trym.prog w = .ok (.int .i64 20) w := fun _ => by kernel_rfl
  have i3 : ∀ w, (Instr.index 42 (.agg #[.int .i64 3, .int .i64 3, .int .i64 4, .int .i64 5]) (.int .u8 3)).run Trym.prog w = .ok (.int .i64 5) w := fun _ => by kernel_rfl
  have i4 : ∀ w, (Instr.index 42 (.agg #[.int .i64 10, .int .i64 10, .int .i64 14, .int .i64 18]) (.int .u8 3)).run Trym.prog w = .ok (.int .i64 18) w := fun _ => by kernel_rfl
  have hbw : b < w.heap.size := block_lt_of_cell c0
  go_enter Trym.func14, Trym.ntmps14
  go_wp2
  go_quiet (fail)
  go_wp2
  go_quiet (fail)
  go_wp2
  go_quiet (fail)
  go_wp2
  exact bodyPost_ret (v := noA) (by simp [noA, results, Trym.results14, go_sem]) rfl ⟨rfl, bel_short _ _ _ _ _ _ _⟩

end Go.Proofs.Qxb6602498aMods
