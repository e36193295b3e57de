/- Seat 622: contracts of zzBytes, zzEndsInZero, ZZNewLattice, ZZNewLabel. -/
import Derived.Test.Qxb6602622aModsRows
import Derived.WalkKit
import Derived.ProofKit
import Derived.OpenShut
import Derived.ChangeOld
import Derived.Below
import Derived.WalkLawsBesides
import Derived.LaidEqlPtr
import Derived.Laws.StructEq
import Derived.Laws.BitsAllLaws
import Derived.Laws.BitsLemmas
import Derived.Deep.QuietTactic
import Derived.BigQuiet
namespace Go.Proofs.Qxb6602622aMods
open Go.ChangeShapes Go.WideShapes Go.ChangeAt Go.RowKit
set_option linter.unusedVariables false

theorem hidden {p : Prop} (h : p) : Hid p := h
def BOk (e : Ending) : Prop := ∃ b : Bool, e = .returned (.bool b)
theorem bok (b : Bool) : BOk (.returned (.bool b)) := ⟨b, rfl⟩

/-! ### zzBytes -/
theorem zz9 (a0 a1 : Bool) (a2 : Int) (ca : ByteArray) (a4 a5 : Bool) (a6 : Int) (cb : ByteArray) (w : World) :
    Calls Trym.prog 9 #[.bool a0, .bool a1, .int .i64 a2, .string ca, .bool a4, .bool a5, .int .i64 a6, .string cb] w fun e w' => BOk e ∧ w' = w := by
  rcases (show (1048576 : Int) < (ca.size : Int) ∨ (¬ (1048576 : Int) < (ca.size : Int) ∧ (1048576 : Int) < (cb.size : Int)) ∨ (¬ (1048576 : Int) < (ca.size : Int) ∧ ¬ (1048576 : Int) < (cb.size : Int) ∧ (1048576 : Int) < (ca.size : Int) + (cb.size : Int)) ∨ (¬ (1048576 : Int) < (ca.size : Int) ∧ ¬ (1048576 : Int) < (cb.size : Int) ∧ ¬ (1048576 : Int) < (ca.size : Int) + (cb.size : Int)) by omega) with h1 | ⟨h1, h2⟩ | ⟨h1, h2, h3⟩ | ⟨h1, h2, h3⟩
  all_goals
    go_enter Trym.func9, Trym.ntmps9
    go_wp2
    go_ret
    exact ⟨bok _, rfl⟩

theorem zz15 (a0 : Int) (ca : ByteArray) (a2 : Int) (cb : ByteArray) (a4 : Int) (cc : ByteArray) (w : World) :
    Calls Trym.prog 15 #[.int .i64 a0, .string ca, .int .i64 a2, .string cb, .int .i64 a4, .string cc] w fun e w' => BOk e ∧ w' = w := by
  by_cases h1 : (1048576 : Int) < (ca.size : Int)
  · go_enter Trym.func15, Trym.ntmps15
    go_wp2
    go_ret
    exact ⟨bok _, rfl⟩
  by_cases h2 : (1048576 : Int) < (cb.size : Int)
  · go_enter Trym.func15, Trym.ntmps15
    go_wp2
    go_ret
    exact ⟨bok _, rfl⟩
  by_cases h3 : (1048576 : Int) < (ca.size : Int) + (cb.size : Int)
  · go_enter Trym.func15, Trym.ntmps15
    go_wp2
    go_ret
    exact ⟨bok _, rfl⟩
  by_cases h4 : (1048576 : Int) < (cc.size : Int)
  · go_enter Trym.func15, Trym.ntmps15
    go_wp2
    go_ret
    exact ⟨bok _, rfl⟩
  by_cases h5 : (1048576 : Int) < (ca.size : Int) + (cb.size : Int) + (cc.size : Int)
  · go_enter Trym.func15, Trym.ntmps15
    go_wp2
    go_ret
    exact ⟨bok _, rfl⟩
  · go_enter Trym.func15, Trym.ntmps15
    go_wp2
    go_ret
    exact ⟨bok _, rfl⟩

/-! ### zzEndsInZero -/
def byteAt (c : ByteArray) (i : Nat) : Nat := (c.data.toList.getD i 0).toNat
theorem byteAt_lt (c : ByteArray) (i : Nat) : byteAt c i < 256 := UInt8.toNat_lt _
theorem byteAt_in (c : ByteArray) (i : Nat) (h : i < c.size) : byteAt c i = c[i].toNat := by
  unfold byteAt
  rw [List.getD_eq_getElem?_getD, List.getElem?_eq_getElem (by simpa using h)]
  rfl
theorem byteAt_out (c : ByteArray) (i : Nat) (h : c.size ≤ i) : byteAt c i = 0 := by
  unfold byteAt
  rw [List.getD_eq_getElem?_getD, List.getElem?_eq_none (by simpa using h)]
  rfl
def endsZ (c : ByteArray) : Bool := decide (0 < c.size) && (byteAt c (c.size - 1) == 0)

theorem ends_any (c : ByteArray) (w : World) (hc : c.size ≤ 1048576) :
    Calls Trym.prog 10 #[.string c] w fun e w' => e = .returned (.bool (endsZ c)) ∧ w' = w := by
  by_cases h0 : 0 < c.size
  · have hb := byteAt_in c (c.size - 1) (by omega)
    by_cases hz : byteAt c (c.size - 1) = 0
    · have he : endsZ c = true := by simp [endsZ, h0, hz]
      have HE := hidden he
      have h1 : ((c[c.size - 1].toNat : Int) == 0) = true := beq_iff_eq.2 (by omega)
      clear he
      go_enter Trym.func10, Trym.ntmps10
      go_wp2
      go_ret
      exact ⟨by rw [HE.out]; rfl, rfl⟩
    · have he : endsZ c = false := by simp [endsZ, h0, hz]
      have HE := hidden he
      have h1 : ((c[c.size - 1].toNat : Int) == 0) = false := beq_eq_false_iff_ne.2 (by omega)
      clear he
      go_enter Trym.func10, Trym.ntmps10
      go_wp2
      go_ret
      exact ⟨by rw [HE.out]; rfl, rfl⟩
  · have he : endsZ c = false := by simp [endsZ, h0]
    have HE := hidden he
    have h1 : (c.size : Int) ≤ 0 := by omega
    clear he
    go_enter Trym.func10, Trym.ntmps10
    go_wp2
    go_ret
    exact ⟨by rw [HE.out]; rfl, rfl⟩

/-! ### ZZNewLattice, ZZNewLabel -/
def latB : Obj := .cells #[.slice none 0 0, .slice none 0 0, .map none, .map none] 45
theorem lattice_any (w : World) :
    Calls Trym.prog 11 #[.slice none 0 0, .slice none 0 0] w fun e w' => e = .returned (.pointer (some ⟨w.heap.size, 0, none⟩)) ∧ w' = w.alloc latB := by
  go_enter Trym.func11, Trym.ntmps11
  go_wp2
  go_ret
  exact ⟨rfl, rfl⟩

theorem label_any (p : Option Addr) (l : Int) (c : ByteArray) (w : World) :
    Calls Trym.prog 12 #[.pointer p, .int .i64 l, .string c] w fun e w' => e = .returned (.agg #[.pointer p, .int .i64 l, .string c]) ∧ w' = w.alloc (.cells #[.pointer p, .int .i64 l, .string c] 28) := by
  go_enter Trym.func12, Trym.ntmps12
  go_wp2
  exact bodyPost_ret (v := .agg #[.pointer p, .int .i64 l, .string c]) (by simp [results, Trym.results12, go_sem]) rfl ⟨rfl, rfl⟩
end Go.Proofs.Qxb6602622aMods
