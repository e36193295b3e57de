/- Seat 622: the contract of Label.Dominates. -/
import Derived.Test.Qxb6602622aModsA
namespace Go.Proofs.Qxb6602622aMods
open Go.ChangeShapes Go.WideShapes Go.ChangeAt Go.RowKit
set_option linter.unusedVariables false

theorem ptr25 : Trym.prog.underlying 25 = some (.pointer (Trym.prog.pointee 25)) := by kernel_rfl
theorem Trym.info45 : (Trym.prog.info? 45).map (fun i => i.size) = some 4 := by kernel_rfl
theorem info45_parts : ∃ j, Trym.prog.info? 45 = some j ∧ j.size ≠ 0 := by
  have h := Trym.info45
  cases hj : Trym.prog.info? 45 with
  | none => rw [hj] at h; cases h
  | some j =>
    rw [hj] at h
    simp at h
    exact ⟨j, rfl, by omega⟩
theorem neq_ptr_same (a : Addr) (w : World) : (binOp .neq 25 (.pointer (some a)) (.pointer (some a))).run Trym.prog w = .ok (.bool false) w := by
  obtain ⟨j, hj, _⟩ := info45_parts
  have h : ∀ d : Nat, (Op.equalIn (d + 1) 25 (.pointer (some a)) (.pointer (some a))).run Trym.prog w = .ok true w := fun d => by
    simp [Op.equalIn, run_underlying Trym.underlying25, sizeOf, typeInfo, hj, run_sameAddr_same]
  simp only [binOp]
  simp [Op.equal, Op.maxDepth, h 9999]
theorem neq_ptr_other {a b : Addr} {ca cb : Array Value} {ta tb : TypeId} (w : World) (hne : a ≠ b) (ha : w.heap[a.block]? = some (.cells ca ta (0, 0))) (hb : w.heap[b.block]? = some (.cells cb tb (0, 0))) :
    (binOp .neq 25 (.pointer (some a)) (.pointer (some b))).run Trym.prog w = .ok (.bool true) w := by
  obtain ⟨j, hj, hsz⟩ := info45_parts
  have h : ∀ d : Nat, (Op.equalIn (d + 1) 25 (.pointer (some a)) (.pointer (some b))).run Trym.prog w = .ok false w := fun d => by
    simp [Op.equalIn, run_underlying Trym.underlying25, sizeOf, typeInfo, hj, hsz, run_sameAddr_other w hne ha hb]
  simp only [binOp]
  simp [Op.equal, Op.maxDepth, h 9999]

/-! ### The plain side: a covers b byte by byte -/
def cov (ca cb : ByteArray) : Bool := (List.range cb.size).all fun i => byteAt ca i &&& byteAt cb i == byteAt cb i
theorem cov_iff (ca cb : ByteArray) : cov ca cb = true ↔ ∀ i, i < cb.size → byteAt ca i &&& byteAt cb i = byteAt cb i := by
  simp [cov]
theorem and_bytes (a b : Nat) (ha : a < 256) (hb : b < 256) : bits .and .u8 (a : Int) (b : Int) = ((a &&& b : Nat) : Int) := u8_and_nat a b ha hb
def domS (la : Int) (ca : ByteArray) (lb : Int) (cb : ByteArray) : Bool := decide (lb ≤ la) && decide (cb.size ≤ ca.size) && cov ca cb
theorem two_new {w : World} (o o' : Obj) : Below w.heap.size w ((w.alloc o).alloc o') := ((Below.refl _ _).alloc (Nat.le_refl _) _).alloc (by simp) _

set_option maxRecDepth 20000 in
theorem dom_nil (la : Int) (ca : ByteArray) (pb : Option Addr) (lb : Int) (cb : ByteArray) (w : World) :
    Calls Trym.prog 13 #[.agg #[.pointer none, .int .i64 la, .string ca], .agg #[.pointer pb, .int .i64 lb, .string cb]] w fun e w' => e = .returned (.bool false) ∧ Below w.heap.size w w' := by
  have hn0 := fun (w : World) (p : Option Addr) => run_eql_pointer_nil (P := Trym.prog) w 25 p ptr25
  go_enter Trym.func13, Trym.ntmps13
  go_wp2
  go_ret
  exact ⟨rfl, two_new _ _⟩

set_option maxRecDepth 20000 in
theorem dom_none (x : Addr) (la : Int) (ca : ByteArray) (lb : Int) (cb : ByteArray) (w : World) :
    Calls Trym.prog 13 #[.agg #[.pointer (some x), .int .i64 la, .string ca], .agg #[.pointer none, .int .i64 lb, .string cb]] w fun e w' => e = .returned (.bool false) ∧ Below w.heap.size w w' := by
  have hn0 := fun (w : World) (p : Option Addr) => run_eql_pointer_nil (P := Trym.prog) w 25 p ptr25
  have hn1 := fun (w : World) (p : Option Addr) => run_neq_pointer_nil (P := Trym.prog) w 25 p ptr25
  go_enter Trym.func13, Trym.ntmps13
  go_wp2
  go_ret
  exact ⟨rfl, two_new _ _⟩

set_option maxRecDepth 20000 in
theorem dom_other (x y : Nat) (cx cy : Array Value) (hne : x ≠ y) (la : Int) (ca : ByteArray) (lb : Int) (cb : ByteArray) (w : World) (hx : w.heap[x]? = some (.cells cx 45 (0, 0))) (hy : w.heap[y]? = some (.cells cy 45 (0, 0))) :
    Calls Trym.prog 13 #[.agg #[.pointer (some ⟨x, 0, none⟩), .int .i64 la, .string ca], .agg #[.pointer (some ⟨y, 0, none⟩), .int .i64 lb, .string cb]] w fun e w' => e = .returned (.bool false) ∧ Below w.heap.size w w' := by
  have hn0 := fun (w : World) (p : Option Addr) => run_eql_pointer_nil (P := Trym.prog) w 25 p ptr25
  have hbel : ∀ o o', Below w.heap.size w ((w.alloc o).alloc o') := fun o o' => two_new o o'
  have hxl : x < w.heap.size := (Array.getElem?_eq_some_iff.1 hx).1
  have hyl : y < w.heap.size := (Array.getElem?_eq_some_iff.1 hy).1
  have hn1 := fun (o o' : Obj) => neq_ptr_other (a := ⟨x, 0, none⟩) (b := ⟨y, 0, none⟩) ((w.alloc o).alloc o') (fun e => hne (by injection e)) (((hbel o o').block x hxl).trans hx) (((hbel o o').block y hyl).trans hy)
  clear hbel hx hy
  go_enter Trym.func13, Trym.ntmps13
  go_wp2
  go_ret
  exact ⟨rfl, two_new _ _⟩

set_option maxRecDepth 20000 in
theorem dom_low (x : Addr) (la : Int) (ca : ByteArray) (lb : Int) (cb : ByteArray) (w : World) (h : la < lb ∨ (lb ≤ la ∧ (ca.size : Int) < (cb.size : Int))) :
    Calls Trym.prog 13 #[.agg #[.pointer (some x), .int .i64 la, .string ca], .agg #[.pointer (some x), .int .i64 lb, .string cb]] w fun e w' => e = .returned (.bool false) ∧ Below w.heap.size w w' := by
  have hn0 := fun (w : World) (p : Option Addr) => run_eql_pointer_nil (P := Trym.prog) w 25 p ptr25
  have hn1 := fun (w : World) => neq_ptr_same x w
  rcases h with h | ⟨h, h2⟩
  all_goals
    go_enter Trym.func13, Trym.ntmps13
    go_wp2
    go_ret
    exact ⟨rfl, two_new _ _⟩

set_option maxHeartbeats 1000000 in
set_option maxRecDepth 20000 in
theorem dom_loop (x : Addr) (la : Int) (ca : ByteArray) (lb : Int) (cb : ByteArray) (w : World) (hl : lb ≤ la) (hs : (cb.size : Int) ≤ (ca.size : Int)) (hb : cb.size ≤ 1048576) :
    Calls Trym.prog 13 #[.agg #[.pointer (some x), .int .i64 la, .string ca], .agg #[.pointer (some x), .int .i64 lb, .string cb]] w fun e w' => e = .returned (.bool (cov ca cb)) ∧ Below w.heap.size w w' := by
  have hn0 := fun (w : World) (p : Option Addr) => run_eql_pointer_nil (P := Trym.prog) w 25 p ptr25
  have hn1 := fun (w : World) => neq_ptr_same x w
  have hd1 : decide (la < lb) = false := decide_eq_false (by omega)
  have hd2 : decide (ca.size < cb.size) = false := decide_eq_false (by omega)
  obtain ⟨W, hW⟩ : ∃ W, W = (w.alloc (.cells #[.pointer (some x), .int .i64 la, .string ca] 28)).alloc (.cells #[.pointer (some x), .int .i64 lb, .string cb] 28) := ⟨_, rfl⟩
  have c1 : W.cell? ⟨w.heap.size, 2, none⟩ = some (.string ca) := by rw [hW]; simp
  have c2 : W.cell? ⟨w.heap.size + 1, 2, none⟩ = some (.string cb) := by rw [hW, World.cell?_alloc_at _ _ _ _ (by simp)]; rfl
  have hbel : Below w.heap.size w W := by rw [hW]; exact two_new _ _
  have HW := hidden hW
  clear hW
  go_enter Trym.func13, Trym.ntmps13
  go_wp2
  rw [← HW.out]
  go_loopw [35] (fun i wr => ∃ k n : Nat, k ≤ cb.size ∧ i = .int .i64 k ∧ wr = W.drewN n ∧ ∀ j, j < k → byteAt ca j &&& byteAt cb j = byteAt cb j) (fun i _ => cb.size - (intOf i).toNat)
  case atStart => exact ⟨0, 0, Nat.zero_le _, rfl, rfl, fun j hj => absurd hj (Nat.not_lt_zero _)⟩
  case round =>
    obtain ⟨k, n, hk, rfl, rfl, hrel⟩ := hrel
    by_cases hlt : k < cb.size
    · have hka : k < ca.size := by omega
      have hi1 : (k : Int) < (ca.size : Int) := by omega
      have hi2 : (k : Int) < (cb.size : Int) := by omega
      have ea := byteAt_in ca k hka
      have eb := byteAt_in cb k hlt
      have hbits := and_bytes (byteAt ca k) (byteAt cb k) (byteAt_lt _ _) (byteAt_lt _ _)
      by_cases hq : byteAt ca k &&& byteAt cb k = byteAt cb k
      · have hn : (bits .and .u8 (ca[k].toNat : Int) (cb[k].toNat : Int) != (cb[k].toNat : Int)) = false := by
          rw [← ea, ← eb, hbits, hq]; simp
        have hrel' : ∀ j, j < k + 1 → byteAt ca j &&& byteAt cb j = byteAt cb j := fun j hj => by
          by_cases e : j = k
          · rw [e]; exact hq
          · exact hrel j (by omega)
        have HR := hidden hrel'
        clear hrel hrel' hq hbits ea eb
        go_wp2
        go_quiet (fail)
        go_wp2
        go_roundw
        case rel => exact ⟨k + 1, _, by omega, by go_num, rfl, HR.out⟩
        case measure => simp [intOf]; omega
      · have hn : (bits .and .u8 (ca[k].toNat : Int) (cb[k].toNat : Int) != (cb[k].toNat : Int)) = true := by
          rw [← ea, ← eb, hbits]; simp; omega
        have hc : cov ca cb = false := by
          cases hc : cov ca cb
          · rfl
          · exact absurd ((cov_iff ca cb).1 hc k hlt) hq
        have HC := hidden hc
        clear hrel hq hbits ea eb hc
        go_wp2
        go_quiet (fail)
        go_wp2
        go_ret
        exact ⟨by rw [HC.out]; rfl, below_drewN (below_drewN hbel _) _⟩
    · have hc : cov ca cb = true := (cov_iff ca cb).2 fun i hi => hrel i (by omega)
      have HC := hidden hc
      clear hrel hc
      go_wp2
      go_ret
      exact ⟨by rw [HC.out]; rfl, below_drewN hbel _⟩

/-- Two labels of one lattice. -/
theorem dom_same (x : Addr) (la : Int) (ca : ByteArray) (lb : Int) (cb : ByteArray) (w : World) (hb : cb.size ≤ 1048576) :
    Calls Trym.prog 13 #[.agg #[.pointer (some x), .int .i64 la, .string ca], .agg #[.pointer (some x), .int .i64 lb, .string cb]] w fun e w' => e = .returned (.bool (domS la ca lb cb)) ∧ Below w.heap.size w w' := by
  by_cases h1 : la < lb
  · have e : domS la ca lb cb = false := by simp [domS]; omega
    rw [e]
    exact dom_low x la ca lb cb w (.inl h1)
  by_cases h2 : ca.size < cb.size
  · have e : domS la ca lb cb = false := by simp [domS]; omega
    rw [e]
    exact dom_low x la ca lb cb w (.inr ⟨by omega, by omega⟩)
  have e : domS la ca lb cb = cov ca cb := by
    have g1 : lb ≤ la := by omega
    have g2 : cb.size ≤ ca.size := by omega
    simp [domS, g1, g2]
  rw [e]
  exact dom_loop x la ca lb cb w (by omega) (by omega) hb
end Go.Proofs.Qxb6602622aMods
