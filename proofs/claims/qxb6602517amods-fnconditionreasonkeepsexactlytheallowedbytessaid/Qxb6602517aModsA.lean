/- Seat 517: the contracts of zzBytes, zzReasonByte and conditionReason. -/
import Derived.Test.Qxb6602517aModsRows
import Derived.WalkKit
import Derived.ProofKit
import Derived.OpenShut
import Derived.ChangeOld
import Derived.Below
import Derived.WalkLawsBesides
import Derived.Laws.BitsAllLaws
import Derived.Laws.BytesArg
import Derived.Maps.AppendAt
namespace Go.Proofs.Qxb6602517aMods
open Go.ChangeShapes Go.WideShapes Go.ChangeAt Go.RowKit
set_option linter.unusedVariables false

theorem zz_no (s : ByteArray) (w : World) (h : 1048576 < s.size) (hm : s.size ≤ maxLen) :
    Calls Trym.prog 6 #[.string s] w fun e w' => e = .returned (.bool false) ∧ w' = w := by
  unfold maxLen at hm
  have h' : (1048576 : Int) < (s.size : Int) := by omega
  go_enter Trym.func6, Trym.ntmps6
  go_wp2
  go_ret
  exact ⟨rfl, rfl⟩

theorem zz_yes (s : ByteArray) (w : World) (h : s.size ≤ 1048576) :
    Calls Trym.prog 6 #[.string s] w fun e w' => e = .returned (.bool true) ∧ w' = w := by
  have h' : ¬ (1048576 : Int) < (s.size : Int) := by omega
  go_enter Trym.func6, Trym.ntmps6
  go_wp2
  go_ret
  exact ⟨rfl, rfl⟩

/-! ### The plain side -/
def okb (c : UInt8) : Bool := (97 ≤ c.toNat && c.toNat ≤ 122) || (65 ≤ c.toNat && c.toNat ≤ 90) || (48 ≤ c.toNat && c.toNat ≤ 57) || c.toNat == 95
def kept (l : List UInt8) : List UInt8 := l.filter okb
theorem fold_all : ∀ c : Fin 256, (97 ≤ bits .or .u8 (c.val : Int) 32 ∧ bits .or .u8 (c.val : Int) 32 ≤ 122) ↔ ((65 ≤ c.val ∧ c.val ≤ 90) ∨ (97 ≤ c.val ∧ c.val ≤ 122)) := by decide +kernel
theorem fold_iff (c : Nat) (h : c < 256) : (97 ≤ bits .or .u8 (c : Int) 32 ∧ bits .or .u8 (c : Int) 32 ≤ 122) ↔ ((65 ≤ c ∧ c ≤ 90) ∨ (97 ≤ c ∧ c ≤ 122)) := fold_all ⟨c, h⟩
theorem okb_iff (c : UInt8) : okb c = true ↔ ((48 ≤ c.toNat ∧ c.toNat ≤ 57) ∨ c.toNat = 95 ∨ (65 ≤ c.toNat ∧ c.toNat ≤ 90) ∨ (97 ≤ c.toNat ∧ c.toNat ≤ 122)) := by
  simp [okb]; omega
theorem kept_snoc_yes (l : List UInt8) (c : UInt8) (h : okb c = true) : kept (l ++ [c]) = kept l ++ [c] := by simp [kept, h]
theorem kept_snoc_no (l : List UInt8) (c : UInt8) (h : okb c = false) : kept (l ++ [c]) = kept l := by simp [kept, h]
theorem kept_len (l : List UInt8) : (kept l).length ≤ l.length := List.length_filter_le _ _
theorem take_snoc (s : ByteArray) (k : Nat) (h : k < s.size) : s.data.toList.take (k + 1) = s.data.toList.take k ++ [s[k]] := by
  rw [List.take_succ_eq_append_getElem (by simpa using h)]; rfl

theorem byte_yes (c : Nat) (w : World) (hc : c < 256) (h : (48 ≤ c ∧ c ≤ 57) ∨ c = 95 ∨ (65 ≤ c ∧ c ≤ 90) ∨ (97 ≤ c ∧ c ≤ 122)) :
    Calls Trym.prog 8 #[.int .u8 (c : Int)] w fun e w' => e = .returned (.bool true) ∧ w' = w := by
  have hf := fold_iff c hc
  by_cases h1 : 48 ≤ c ∧ c ≤ 57
  · clear hf h
    go_enter Trym.func8, Trym.ntmps8
    go_wp2
    go_ret
    exact ⟨rfl, rfl⟩
  · by_cases h2 : c = 95
    · subst h2
      clear hf h
      go_enter Trym.func8, Trym.ntmps8
      go_wp2
      go_ret
      exact ⟨rfl, rfl⟩
    · have h3 := hf.2 (by omega)
      obtain ⟨L, hL⟩ : ∃ L, bits .or .u8 (c : Int) 32 = L := ⟨_, rfl⟩
      rw [hL] at h3
      obtain ⟨h4, h5⟩ := h3
      have g1 : ((c : Int) == 95) = false := by simp; omega
      have g2 : (57 : Int) < c := by omega
      clear hf h h1 h2
      go_enter Trym.func8, Trym.ntmps8
      go_wp2
      go_ret
      exact ⟨rfl, rfl⟩

theorem byte_no (c : Nat) (w : World) (hc : c < 256) (h : ¬ ((48 ≤ c ∧ c ≤ 57) ∨ c = 95 ∨ (65 ≤ c ∧ c ≤ 90) ∨ (97 ≤ c ∧ c ≤ 122))) :
    Calls Trym.prog 8 #[.int .u8 (c : Int)] w fun e w' => e = .returned (.bool false) ∧ w' = w := by
  have hf := fold_iff c hc
  have h3 : ¬ (97 ≤ bits .or .u8 (c : Int) 32 ∧ bits .or .u8 (c : Int) 32 ≤ 122) := fun x => by have := hf.1 x; omega
  obtain ⟨L, hL⟩ : ∃ L, bits .or .u8 (c : Int) 32 = L := ⟨_, rfl⟩
  rw [hL] at h3
  have g1 : ((c : Int) == 95) = false := by simp; omega
  have h6 : L < 97 ∨ (97 ≤ L ∧ 122 < L) := by omega
  have h7 : (c : Int) < 48 ∨ (57 : Int) < c := by omega
  clear hf h h3
  rcases h6 with h6 | ⟨h6, h8⟩ <;> rcases h7 with h7 | h7
  all_goals
    go_enter Trym.func8, Trym.ntmps8
    go_wp2
    go_ret
    first
      | exact ⟨rfl, rfl⟩
      | exact ⟨congrArg (fun b => Ending.returned (Value.bool b)) (decide_eq_false (by omega)), rfl⟩

/-! ### conditionReason -/
theorem Trym.info5 : (Trym.prog.info? 5).map (fun i => (i.zero, i.size, i.bytes)) = some (some (.int .u8 0), 1, 1) := by kernel_rfl
def vals (l : List UInt8) : List Value := l.map fun c => Value.int .u8 (c.toNat : Int)
theorem vals_snoc (l : List UInt8) (c : UInt8) : vals (l ++ [c]) = vals l ++ [Value.int .u8 (c.toNat : Int)] := by simp [vals]

set_option maxHeartbeats 1000000 in
theorem reason_any (s : ByteArray) (w : World) (hs : s.size ≤ 1048576) :
    Calls Trym.prog 11 #[.string s] w fun e w' => e = .returned (.string ⟨(kept s.data.toList).toArray⟩) ∧ Below w.heap.size w w' := by
  obtain ⟨i0, hi, hz0, hz1, hz2⟩ := info_parts Trym.info5
  go_enter Trym.func11, Trym.ntmps11
  go_wp2_with (at_make; refine wpList_make_own _ rfl _ _ 26 rfl w.heap.size 5 i0 (.int .u8 0) 1 Trym.underlying26 hi hz0 hz1 _ _ _ s.size rfl rfl (by rfl) ?b2 ?b3 (Nat.le_refl _) ?_)
  case b2 => rw [hz2]; omega
  case b3 => unfold maxLen; omega
  intro w1 hown hgrow
  have hb : Below w.heap.size w w1 := (Below.refl _ _).grown hgrow (Nat.le_refl _) (fun k h => by cases h)
  clear hgrow
  go_wp2
  go_loopw [3, 11] (fun v i wr => ∃ (k : Nat), k ≤ s.size ∧ i = .int .i64 k ∧ v = .slice (some ⟨w.heap.size, 0, none⟩) (kept (s.data.toList.take k)).length s.size ∧ wr.ownsRow w.heap.size 5 1 (.slice (some ⟨w.heap.size, 0, none⟩) (kept (s.data.toList.take k)).length s.size) (kept (s.data.toList.take k)).length (vals (kept (s.data.toList.take k))) ∧ Below w.heap.size w wr) (fun _ i _ => s.size - (intOf i).toNat)
  case atStart => exact ⟨0, Nat.zero_le _, rfl, rfl, hown, hb⟩
  case round =>
    clear hown hb
    obtain ⟨k, hk, rfl, rfl, hown, hb⟩ := hrel
    by_cases hlt : k < s.size
    · have hkl : (kept (s.data.toList.take k)).length ≤ k := Nat.le_trans (kept_len _) (by simp; omega)
      have hts := take_snoc s k hlt
      have hb8 : s[k].toNat < 256 := UInt8.toNat_lt _
      by_cases ho : okb s[k] = true
      · have hsn : kept (s.data.toList.take (k + 1)) = kept (s.data.toList.take k) ++ [s[k]] := by rw [hts, kept_snoc_yes _ _ ho]
        have HS : Hid _ := hsn
        have hrange := (okb_iff _).1 ho
        clear hts hsn ho
        generalize kept (s.data.toList.take k) = K at *
        have hrange' : (97 ≤ (s[k].toNat : Int) ∧ (s[k].toNat : Int) ≤ 122) ∨ (65 ≤ (s[k].toNat : Int) ∧ (s[k].toNat : Int) ≤ 90) ∨ (48 ≤ (s[k].toNat : Int) ∧ (s[k].toNat : Int) ≤ 57) ∨ (95 ≤ (s[k].toNat : Int) ∧ (s[k].toNat : Int) ≤ 95) := by omega
        clear hrange
        rcases hrange' with ⟨h1, h2⟩ | ⟨h1, h2⟩ | ⟨h1, h2⟩ | ⟨h1, h2⟩
        rotate_left 3
        · have e95 : ((s[k].toNat : Int) == 95) = true := beq_iff_eq.2 (by omega)
          go_wp2_with (at_builtin; refine wpList_append_fits _ rfl _ _ 26 rfl w.heap.size 5 i0 1 Trym.underlying26 hi hz1 w.heap.size K.length s.size (vals K) rfl (hown.alloc _) ⟨wr.heap.size, 0, none⟩ 1 1 [.int .u8 (s[k].toNat : Int)] rfl rfl (cell_one_new _ _ _) (ints_oneCell .u8 [(s[k].toNat : Int)]) (by omega) ?_)
          intro w2 hown2 hgrow2
          have hb2 : Below w.heap.size w w2 := (hb.alloc hb.size _).grown hgrow2 (by have := hb.size; simp; omega) (fun j hj => by cases hj; exact Nat.le_refl _)
          have HO : Hid _ := hown2
          clear hown2 hgrow2 hown hb
          go_wp2
          go_roundw
          case rel =>
            refine ⟨k + 1, by omega, by go_num, ?_, ?_, hb2⟩
            · rw [HS.out, List.length_append]; rfl
            · rw [HS.out, vals_snoc, List.length_append]; exact HO.out
          case measure => simp [intOf]; omega
        all_goals
          go_wp2_with (at_builtin; refine wpList_append_fits _ rfl _ _ 26 rfl w.heap.size 5 i0 1 Trym.underlying26 hi hz1 w.heap.size K.length s.size (vals K) rfl (hown.alloc _) ⟨wr.heap.size, 0, none⟩ 1 1 [.int .u8 (s[k].toNat : Int)] rfl rfl (cell_one_new _ _ _) (ints_oneCell .u8 [(s[k].toNat : Int)]) (by omega) ?_)
        all_goals
          intro w2 hown2 hgrow2
          have hb2 : Below w.heap.size w w2 := (hb.alloc hb.size _).grown hgrow2 (by have := hb.size; simp; omega) (fun j hj => by cases hj; exact Nat.le_refl _)
          have HO : Hid _ := hown2
          clear hown2 hgrow2 hown hb
          go_wp2
          go_roundw
          case rel =>
            refine ⟨k + 1, by omega, by go_num, ?_, ?_, hb2⟩
            · rw [HS.out, List.length_append]; rfl
            · rw [HS.out, vals_snoc, List.length_append]; exact HO.out
          case measure => simp [intOf]; omega
      · have hsn : kept (s.data.toList.take (k + 1)) = kept (s.data.toList.take k) := by rw [hts, kept_snoc_no _ _ (by simpa using ho)]
        have HS : Hid _ := hsn
        have hrange := mt (okb_iff s[k]).2 ho
        clear hts hsn ho
        generalize kept (s.data.toList.take k) = K at *
        have hrange' : (s[k].toNat : Int) < 48 ∨ (57 < (s[k].toNat : Int) ∧ (s[k].toNat : Int) < 65) ∨ (90 < (s[k].toNat : Int) ∧ (s[k].toNat : Int) < 95) ∨ (95 < (s[k].toNat : Int) ∧ (s[k].toNat : Int) < 97) ∨ 122 < (s[k].toNat : Int) := by omega
        have e95 : ((s[k].toNat : Int) == 95) = false := beq_eq_false_iff_ne.2 (by omega)
        clear hrange
        rcases hrange' with h1 | ⟨h1, h2⟩ | ⟨h1, h2⟩ | ⟨h1, h2⟩ | h1
        all_goals
          go_wp2
          go_roundw
          case rel => exact ⟨k + 1, by omega, by go_num, by rw [HS.out], by rw [HS.out]; exact hown, hb⟩
          case measure => simp [intOf]; omega
    · have hke : k = s.size := by omega
      have hall : s.data.toList.take k = s.data.toList := List.take_of_length_le (by simp; omega)
      rw [hall] at hown
      have hcv := run_convert_bytes_back (P := Trym.prog) wr 26 9 5 ⟨w.heap.size, 0, none⟩ s.size (kept s.data.toList) Trym.underlying26 Trym.underlying5 Trym.underlying9
        (fun j hj => by rw [add_plain, Nat.zero_add, hown.cellAt j (by omega)]; simp [vals, List.getElem?_eq_getElem hj])
      rw [hall]
      clear hown hall
      go_wp2
      go_ret
      exact ⟨rfl, hb⟩
end Go.Proofs.Qxb6602517aMods
