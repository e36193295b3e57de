/- Seat 622: dominance is an order (plain); '!=' on one label. -/
import Derived.Test.Qxb6602622aModsB
namespace Go.Proofs.Qxb6602622aMods
open Go.ChangeShapes Go.WideShapes Go.ChangeAt Go.RowKit
set_option linter.unusedVariables false

theorem cov_refl (c : ByteArray) : cov c c = true := (cov_iff c c).2 fun i _ => Nat.and_self _
theorem domS_iff (la : Int) (ca : ByteArray) (lb : Int) (cb : ByteArray) : domS la ca lb cb = true ↔ lb ≤ la ∧ cb.size ≤ ca.size ∧ ∀ i, i < cb.size → byteAt ca i &&& byteAt cb i = byteAt cb i := by
  simp [domS, cov_iff, and_assoc]
theorem domS_refl (l : Int) (c : ByteArray) : domS l c l c = true := (domS_iff l c l c).2 ⟨Int.le_refl _, Nat.le_refl _, fun i _ => Nat.and_self _⟩
theorem bytes_ext {a b : ByteArray} (hs : a.size = b.size) (h : ∀ i, i < a.size → byteAt a i = byteAt b i) : a = b := by
  obtain ⟨a⟩ := a
  obtain ⟨b⟩ := b
  congr 1
  apply Array.ext
  · exact hs
  · intro i h1 h2
    have e := h i h1
    rw [byteAt_in _ _ h1, byteAt_in _ _ h2] at e
    exact UInt8.toNat_inj.1 e
theorem domS_antisymm {la : Int} {ca : ByteArray} {lb : Int} {cb : ByteArray} (h1 : domS la ca lb cb = true) (h2 : domS lb cb la ca = true) : la = lb ∧ ca = cb := by
  obtain ⟨l1, s1, c1⟩ := (domS_iff la ca lb cb).1 h1
  obtain ⟨l2, s2, c2⟩ := (domS_iff lb cb la ca).1 h2
  refine ⟨by omega, bytes_ext (by omega) fun i hi => ?_⟩
  have e1 := c1 i (by omega)
  have e2 := c2 i hi
  rw [Nat.and_comm] at e2
  exact e2.symm.trans e1
theorem domS_trans {la : Int} {ca : ByteArray} {lb : Int} {cb : ByteArray} {lc : Int} {cc : ByteArray} (h1 : domS la ca lb cb = true) (h2 : domS lb cb lc cc = true) : domS la ca lc cc = true := by
  obtain ⟨l1, s1, c1⟩ := (domS_iff la ca lb cb).1 h1
  obtain ⟨l2, s2, c2⟩ := (domS_iff lb cb lc cc).1 h2
  refine (domS_iff la ca lc cc).2 ⟨by omega, by omega, fun i hi => ?_⟩
  have e1 := c1 i (by omega)
  have e2 := c2 i hi
  rw [← e2, ← Nat.and_assoc, e1]

theorem st28 : Trym.prog.underlying 28 = some (.struct (Trym.prog.fieldsOf 28)) := by kernel_rfl
theorem held28 : Trym.prog.stoodInHeld 28 = false := by kernel_rfl
theorem eql_ptr_same (a : Addr) (d : Nat) (w : World) : (Op.equalIn (d + 1) 25 (.pointer (some a)) (.pointer (some a))).run Trym.prog w = .ok true w := by
  obtain ⟨j, hj, _⟩ := info45_parts
  simp [Op.equalIn, run_underlying Trym.underlying25, sizeOf, typeInfo, hj, run_sameAddr_same]
theorem neq_label (x : Addr) (l : Int) (c : ByteArray) (w : World) : (binOp .neq 28 (.agg #[.pointer (some x), .int .i64 l, .string c]) (.agg #[.pointer (some x), .int .i64 l, .string c])).run Trym.prog w = .ok (.bool false) w := by
  have hf := st28.symm.trans Trym.underlying28
  injection hf with hf
  injection hf with hf
  rw [run_neq_struct, run_equalIn_agg w 9999 28 _ _ st28 held28, hf]
  have e1 := eql_ptr_same x 9998 w
  have e2 := run_equalIn_int (P := Trym.prog) w 9998 3 .i64 .i64 l l Trym.underlying3
  have e3 := run_equalIn_string (P := Trym.prog) w 9998 9 c c Trym.underlying9
  simp [Op.eqFields, part, go_sem, e1]
end Go.Proofs.Qxb6602622aMods
