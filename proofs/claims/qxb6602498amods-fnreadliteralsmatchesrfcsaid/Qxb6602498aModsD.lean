import Derived.Test.Qxb6602498aModsRows
import Derived.WalkKit
import Derived.ProofKit
import Derived.ChangeOld
import Derived.Below
import Derived.WalkLawsBesides
namespace Go.Proofs.Qxb6602498aMods
open Go.ChangeShapes Go.WideShapes Go.ChangeAt Go.RowKit
set_option linter.unusedVariables false

theorem zz_no (a : Option Addr) (len cap : Nat) (w : World) (h : 1048576 < len) (hm : len ≤ maxLen) :
    Calls Trym.prog 6 #[.slice a len cap] w fun e w' => e = .returned (.bool false) ∧ w' = w := by
  unfold maxLen at hm
  have h' : (1048576 : Int) < (len : Int) := by omega
  go_enter Trym.func6, Trym.ntmps6
  go_wp2
  go_ret
  exact ⟨rfl, rfl⟩

theorem zz_yes (a : Option Addr) (len cap : Nat) (w : World) (h : len ≤ 1048576) :
    Calls Trym.prog 6 #[.slice a len cap] w fun e w' => e = .returned (.bool true) ∧ w' = w := by
  have h' : ¬ (1048576 : Int) < (len : Int) := by omega
  go_enter Trym.func6, Trym.ntmps6
  go_wp2
  go_ret
  exact ⟨rfl, rfl⟩

theorem Trym.info5 : (Trym.prog.info? 5).map (fun i => (i.zero, i.size, i.bytes)) = some (some (.int .u8 0), 1, 1) := by kernel_rfl

theorem copy_nil (w : World) :
    Calls Trym.prog 7 #[.slice none 0 0] w fun e w' => e = .returned (.slice none 0 0) ∧ w' = w := by
  have hnil := fun (w : World) (a : Option Addr) (n c : Nat) => Lib.run_eql_slice_nil (P := Trym.prog) w 22 5 a n c 0 0 Trym.underlying22
  go_enter Trym.func7, Trym.ntmps7
  go_wp2
  go_ret
  exact ⟨rfl, rfl⟩

/-- An empty slice that is not nil. -/
theorem copy_empty (x : Addr) (cap : Nat) (w : World) :
    Calls Trym.prog 7 #[.slice (some x) 0 cap] w fun e w' => ∃ g, e = .returned (.slice (some ⟨g, 0, none⟩) 0 0) ∧ Below w.heap.size w w' := by
  have hnil := fun (w : World) (a : Option Addr) (n c : Nat) => Lib.run_eql_slice_nil (P := Trym.prog) w 22 5 a n c 0 0 Trym.underlying22
  obtain ⟨i0, hi, hz0, hz1, hz2⟩ := info_parts Trym.info5
  go_enter Trym.func7, Trym.ntmps7
  go_wp2_with (at_make; refine wpList_make_full _ rfl _ _ 22 rfl w.heap.size 5 i0 (.int .u8 0) 1 Trym.underlying22 hi hz0 hz1 _ _ _ _ 0 rfl rfl (by simp) (by simp) ?b2 ?b3 (Nat.le_refl _) ?_)
  case b2 => simp
  case b3 => simp
  · intro w1 hown hgrow
    have hb : Below w.heap.size w w1 := (Below.refl _ _).grown hgrow (Nat.le_refl _) (fun k h => by cases h)
    clear hown hgrow
    go_wp2
    refine wp_loop_rounds 1 ?_
    rw [rounds_succ]
    go_wp2
    go_ret
    exact ⟨_, rfl, hb⟩

/-- What comes out of a copy: a row of the call's own with the same elements. -/
theorem copy_any (b off len cap : Nat) (z : Nat → Int) (w : World) (h0 : 0 < len) (hl : len ≤ 1048576)
    (hc : ∀ i, i < len → w.cell? ⟨b, off + i, none⟩ = some (.int .u8 (z i))) :
    Calls Trym.prog 7 #[.slice (some ⟨b, off, none⟩) len cap] w fun e w' => ∃ g, e = .returned (.slice (some ⟨g, 0, none⟩) len len) ∧ Below w.heap.size w w' ∧ ∀ i, i < len → w'.cell? ⟨g, 0 + i, none⟩ = some (.int .u8 (z i)) := by
  have hnil := fun (w : World) (a : Option Addr) (n c : Nat) => Lib.run_eql_slice_nil (P := Trym.prog) w 22 5 a n c 0 0 Trym.underlying22
  obtain ⟨i0, hi, hz0, hz1, hz2⟩ := info_parts Trym.info5
  have hbw : b < w.heap.size := block_lt_of_cell (hc 0 h0)
  go_enter Trym.func7, Trym.ntmps7
  go_wp2_with (at_make; refine wpList_make_full _ rfl _ _ 22 rfl w.heap.size 5 i0 (.int .u8 0) 1 Trym.underlying22 hi hz0 hz1 _ _ _ _ len rfl rfl (by rfl) (by rfl) ?b2 ?b3 (Nat.le_refl _) ?_)
  case b2 => rw [hz2]; omega
  case b3 => unfold maxLen; omega
  · intro w1 hown hgrow
    have hb : Below w.heap.size w w1 := (Below.refl _ _).grown hgrow (Nat.le_refl _) (fun k h => by cases h)
    clear hgrow
    go_wp2
    go_loopw [4] (fun i wr => ∃ (k : Nat) (ys : List Value), k ≤ len ∧ i = .int .i64 k ∧ wr.ownsRow w.heap.size 5 1 (.slice (some ⟨w.heap.size, 0, none⟩) len len) len ys ∧ Below w.heap.size w wr ∧ ∀ j, j < k → ys[j]? = some (.int .u8 (z j))) (fun i _ => len - (intOf i).toNat)
    case atStart => exact ⟨0, _, Nat.zero_le _, rfl, hown, hb, fun j hj => absurd hj (Nat.not_lt_zero _)⟩
    case round =>
      clear hown hb
      obtain ⟨k, ys, hk, rfl, hown, hb, hys⟩ := hrel
      by_cases hlt : k < len
      · have c1 : wr.cell? ⟨b, off + k, none⟩ = some (.int .u8 (z k)) := (hb.cell (by exact hbw)).trans (hc k hlt)
        have hlen := hown.1
        obtain ⟨u, hu⟩ : ∃ u, ys[k]? = some u := ⟨_, List.getElem?_eq_getElem (by omega)⟩
        have c2 : wr.cell? ⟨w.heap.size, k, none⟩ = some u := (hown.cellAt k (by omega)).trans hu
        have f2 : wr.frozen? ⟨w.heap.size, k, none⟩ = false := hown.frozenAt k
        have R := hown.stored k (.int .u8 (z k))
        have hb2 : Below w.heap.size w (wr.setCell ⟨w.heap.size, k, none⟩ (.int .u8 (z k))) := hb.setCell (Nat.le_refl _) _
        have hys2 : ∀ j, j < k + 1 → (ys.set k (.int .u8 (z k)))[j]? = some (.int .u8 (z j)) := by
          intro j hj
          by_cases e : j = k
          · subst e; rw [List.getElem?_set_self (by omega)]
          · rw [List.getElem?_set_ne (by omega)]; exact hys j (by omega)
        have HR : Hid (_ ∧ _ ∧ _) := ⟨R.1, hb2, hys2⟩
        clear R hb2 hys2 hown hb hys hu
        go_wp2
        go_roundw
        case rel => exact ⟨k + 1, _, by omega, by go_num, HR.out.1, HR.out.2.1, HR.out.2.2⟩
        case measure => simp [intOf]; omega
      · have : k = len := by omega
        subst this
        go_wp2
        go_ret
        exact ⟨_, rfl, hb, fun i hi => by rw [Nat.zero_add]; exact (hown.cellAt i (by omega)).trans (hys i hi)⟩
end Go.Proofs.Qxb6602498aMods
