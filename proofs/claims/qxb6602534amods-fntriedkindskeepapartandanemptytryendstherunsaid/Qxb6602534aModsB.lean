/- Seat 534: the contracts of kbB1Clone and kbB1Within. -/
import Derived.Test.Qxb6602534aModsA
namespace Go.Proofs.Qxb6602534aMods
open Go.ChangeShapes Go.WideShapes Go.ChangeAt Go.RowKit
set_option linter.unusedVariables false

/-! ### kbB1Clone -/
theorem clone_nil (cap : Nat) (w : World) :
    Calls Trym.prog 8 #[.slice none 0 cap] w fun e w' => e = .returned (.slice none 0 0) ∧ w' = w := by
  have hnil := fun (w : World) (a : Option Addr) (n c : Nat) => Lib.run_eql_slice_nil (P := Trym.prog) w 22 9 a n c 0 0 Trym.underlying22
  go_enter Trym.func8, Trym.ntmps8
  go_wp2
  go_ret
  exact ⟨rfl, rfl⟩

theorem clone_empty (x : Addr) (cap : Nat) (w : World) :
    Calls Trym.prog 8 #[.slice (some x) 0 cap] w fun e w' => ∃ g, e = .returned (.slice (some ⟨g, 0, none⟩) 0 0) ∧ Below w.heap.size w w' := by
  have hnil := fun (w : World) (a : Option Addr) (n c : Nat) => Lib.run_eql_slice_nil (P := Trym.prog) w 22 9 a n c 0 0 Trym.underlying22
  obtain ⟨i0, hi, hz0, hz1, hz2⟩ := info_parts Trym.info9
  go_enter Trym.func8, Trym.ntmps8
  go_wp2_with (at_make; refine wpList_make_full _ rfl _ _ 22 rfl w.heap.size 9 i0 (.string ByteArray.empty) 1 Trym.underlying22 hi hz0 hz1 _ _ _ _ 0 rfl rfl (by simp) (by simp) ?b2 ?b3 (Nat.le_refl _) ?_)
  case b2 => simp
  case b3 => simp
  intro w1 hown hgrow
  have hb : Below w.heap.size w w1 := (Below.refl _ _).grown hgrow (Nat.le_refl _) (fun k h => by cases h)
  clear hown hgrow
  go_wp2
  refine wp_loop_rounds 1 ?_
  rw [rounds_succ]
  go_wp2
  go_ret
  exact ⟨_, rfl, hb⟩

theorem clone_row (g off cap : Nat) (L : List ByteArray) (w : World) (h0 : 0 < L.length) (hl : L.length ≤ 1048576)
    (hc : ∀ i s, L[i]? = some s → w.cell? ⟨g, off + i, none⟩ = some (.string s)) :
    Calls Trym.prog 8 #[.slice (some ⟨g, off, none⟩) L.length cap] w fun e w' => ∃ g', e = .returned (.slice (some ⟨g', 0, none⟩) L.length L.length) ∧ Below w.heap.size w w' ∧ ∀ i s, L[i]? = some s → w'.cell? ⟨g', 0 + i, none⟩ = some (.string s) := by
  have hnil := fun (w : World) (a : Option Addr) (n c : Nat) => Lib.run_eql_slice_nil (P := Trym.prog) w 22 9 a n c 0 0 Trym.underlying22
  obtain ⟨i0, hi, hz0, hz1, hz2⟩ := info_parts Trym.info9
  have hbw : g < w.heap.size := block_lt_of_cell (hc 0 _ (List.getElem?_eq_getElem h0))
  go_enter Trym.func8, Trym.ntmps8
  go_wp2_with (at_make; refine wpList_make_full _ rfl _ _ 22 rfl w.heap.size 9 i0 (.string ByteArray.empty) 1 Trym.underlying22 hi hz0 hz1 _ _ _ _ L.length rfl rfl (by rfl) (by rfl) ?b2 ?b3 (Nat.le_refl _) ?_)
  case b2 => rw [hz2]; omega
  case b3 => unfold maxLen; omega
  intro w1 hown hgrow
  have hb : Below w.heap.size w w1 := (Below.refl _ _).grown hgrow (Nat.le_refl _) (fun k h => by cases h)
  clear hgrow
  go_wp2
  go_loopw [4] (fun i wr => ∃ (k : Nat) (ys : List Value), k ≤ L.length ∧ i = .int .i64 k ∧ wr.ownsRow w.heap.size 9 1 (.slice (some ⟨w.heap.size, 0, none⟩) L.length L.length) L.length ys ∧ Below w.heap.size w wr ∧ ∀ j s, j < k → L[j]? = some s → ys[j]? = some (.string s)) (fun i _ => L.length - (intOf i).toNat)
  case atStart => exact ⟨0, _, Nat.zero_le _, rfl, hown, hb, fun j s hj => absurd hj (Nat.not_lt_zero _)⟩
  case round =>
    clear hown hb
    obtain ⟨k, ys, hk, rfl, hown, hb, hys⟩ := hrel
    by_cases hlt : k < L.length
    · obtain ⟨s, hs⟩ : ∃ s, L[k]? = some s := ⟨_, List.getElem?_eq_getElem hlt⟩
      have c1 : wr.cell? ⟨g, off + k, none⟩ = some (.string s) := (hb.cell (by exact hbw)).trans (hc k s hs)
      have hlen := hown.1
      obtain ⟨u, hu⟩ : ∃ u, ys[k]? = some u := ⟨_, List.getElem?_eq_getElem (by omega)⟩
      have c2 : wr.cell? ⟨w.heap.size, k, none⟩ = some u := (hown.cellAt k (by omega)).trans hu
      have f2 : wr.frozen? ⟨w.heap.size, k, none⟩ = false := hown.frozenAt k
      have R := hown.stored k (.string s)
      have hb2 : Below w.heap.size w (wr.setCell ⟨w.heap.size, k, none⟩ (.string s)) := hb.setCell (Nat.le_refl _) _
      have hys2 : ∀ j t, j < k + 1 → L[j]? = some t → (ys.set k (.string s))[j]? = some (.string t) := by
        intro j t hj ht
        by_cases e : j = k
        · subst e
          rw [hs] at ht
          cases ht
          rw [List.getElem?_set_self (by omega)]
        · rw [List.getElem?_set_ne (by omega)]; exact hys j t (by omega) ht
      have HR : Hid (_ ∧ _ ∧ _) := ⟨R.1, hb2, hys2⟩
      clear R hb2 hys2 hown hb hys hu hc hs
      go_wp2
      go_roundw
      case rel => exact ⟨k + 1, _, by omega, by go_num, HR.out.1, HR.out.2.1, HR.out.2.2⟩
      case measure => simp [intOf]; omega
    · have HY : Hid _ := hys
      clear hys hc
      go_wp2
      go_ret
      refine ⟨_, rfl, hb, fun i s hi => ?_⟩
      have hil : i < L.length := (List.getElem?_eq_some_iff.1 hi).1
      rw [Nat.zero_add]
      exact (hown.cellAt i (by omega)).trans (HY.out i s (by omega) hi)

theorem clone_any (v : Value) (L : List ByteArray) (w : World) (hl : L.length ≤ 1048576) (h : Has w v L) :
    Calls Trym.prog 8 #[v] w fun e w' => ∃ v', e = .returned v' ∧ Has w' v' L ∧ Below w.heap.size w w' := by
  obtain ⟨a, cap, rfl, h⟩ := h
  by_cases h0 : L = []
  · subst h0
    cases a with
    | none =>
      refine (clone_nil cap w).mono ?_
      rintro e w' ⟨rfl, rfl⟩
      exact ⟨_, rfl, ⟨none, 0, rfl, .inl rfl⟩, Below.refl _ _⟩
    | some x =>
      refine (clone_empty x cap w).mono ?_
      rintro e w' ⟨g, rfl, hb⟩
      exact ⟨_, rfl, ⟨_, 0, rfl, .inl rfl⟩, hb⟩
  · rcases h with h | ⟨g, off, rfl, hc⟩
    · exact absurd h h0
    refine (clone_row g off cap L w (List.length_pos_iff.2 h0) hl hc).mono ?_
    rintro e w' ⟨g', rfl, hb, hc'⟩
    exact ⟨_, rfl, ⟨_, _, rfl, .inr ⟨g', 0, rfl, hc'⟩⟩, hb⟩

/-! ### kbB1Within -/
/-- An answer of kbB1Within: a number and a yes or no; with a yes the number lies within the bound. -/
def WOk (e : Ending) : Prop := ∃ (t' : Int) (ok : Bool), e = .returned (.tuple #[.int .i64 t', .bool ok]) ∧ (ok = true → 0 ≤ t' ∧ t' ≤ 1048576)
theorem wok_no : WOk (.returned (.tuple #[.int .i64 0, .bool false])) := ⟨0, false, rfl, fun h => by cases h⟩
theorem wok_yes (t : Int) (h0 : 0 ≤ t) (h1 : t ≤ 1048576) : WOk (.returned (.tuple #[.int .i64 t, .bool true])) := ⟨t, true, rfl, fun _ => ⟨h0, h1⟩⟩

theorem within_long (t : Int) (a : Option Addr) (len cap : Nat) (w : World) (h : (4096 : Int) < len) :
    Calls Trym.prog 7 #[.int .i64 t, .slice a len cap] w fun e w' => e = .returned (.tuple #[.int .i64 0, .bool false]) ∧ w' = w := by
  go_enter Trym.func7, Trym.ntmps7
  go_wp2
  go_ret2
  exact ⟨rfl, rfl⟩

theorem within_empty (t : Int) (a : Option Addr) (cap : Nat) (w : World) (h0 : 0 ≤ t) (h1 : t ≤ 1048576) :
    Calls Trym.prog 7 #[.int .i64 t, .slice a 0 cap] w fun e w' => e = .returned (.tuple #[.int .i64 t, .bool true]) ∧ w' = w := by
  go_enter Trym.func7, Trym.ntmps7
  go_wp2
  refine wp_loop_rounds 1 ?_
  rw [rounds_succ]
  go_wp2
  go_ret2
  exact ⟨rfl, rfl⟩

theorem within_row (t : Int) (g off cap : Nat) (L : List ByteArray) (w : World) (h0 : 0 ≤ t) (h1 : t ≤ 1048576) (hl : L.length ≤ 4096)
    (hc : ∀ i s, L[i]? = some s → w.cell? ⟨g, off + i, none⟩ = some (.string s)) :
    Calls Trym.prog 7 #[.int .i64 t, .slice (some ⟨g, off, none⟩) L.length cap] w fun e w' => WOk e ∧ w' = w := by
  by_cases hbig : 1048576 < t + 8 * (L.length : Int)
  · go_enter Trym.func7, Trym.ntmps7
    go_wp2
    go_ret2
    exact ⟨wok_no, rfl⟩
  · go_enter Trym.func7, Trym.ntmps7
    go_wp2
    go_loop [0, 6] (fun z i => ∃ (k : Nat) (u : Int), k ≤ L.length ∧ i = .int .i64 k ∧ z = .int .i64 u ∧ 0 ≤ u ∧ u ≤ 1048576) (fun _ i => L.length - (intOf i).toNat)
    case atStart => exact ⟨0, _, Nat.zero_le _, rfl, rfl, by omega, by omega⟩
    case round =>
      obtain ⟨k, u, hk, rfl, rfl, hu0, hu1⟩ := hrel
      by_cases hlt : k < L.length
      · obtain ⟨s, hs⟩ : ∃ s, L[k]? = some s := ⟨_, List.getElem?_eq_getElem hlt⟩
        have c1 := hc k s hs
        clear hc hs
        by_cases hs1 : (1048576 : Int) < (s.size : Int)
        · go_wp2
          go_ret2
          exact ⟨wok_no, rfl⟩
        · by_cases hs2 : (1048576 : Int) < u + (s.size : Int)
          · go_wp2
            go_ret2
            exact ⟨wok_no, rfl⟩
          · go_wp2
            go_round
            case rel => exact ⟨k + 1, _, by omega, by go_num, rfl, by omega, by omega⟩
            case measure => simp [intOf]; omega
      · clear hc
        go_wp2
        go_ret2
        exact ⟨wok_yes u hu0 hu1, rfl⟩

theorem within_any (t : Int) (v : Value) (L : List ByteArray) (w : World) (h0 : 0 ≤ t) (h1 : t ≤ 1048576) (h : Has w v L) :
    Calls Trym.prog 7 #[.int .i64 t, v] w fun e w' => (∃ (t' : Int) (ok : Bool), e = .returned (.tuple #[.int .i64 t', .bool ok]) ∧ (ok = true → 0 ≤ t' ∧ t' ≤ 1048576 ∧ L.length ≤ 4096)) ∧ w' = w := by
  obtain ⟨a, cap, rfl, h⟩ := h
  by_cases hl : 4096 < L.length
  · refine (within_long t a L.length cap w (by omega)).mono ?_
    rintro e w' ⟨rfl, rfl⟩
    exact ⟨⟨0, false, rfl, fun h => by cases h⟩, rfl⟩
  · rcases h with rfl | ⟨g, off, rfl, hc⟩
    · refine (within_empty t a cap w h0 h1).mono ?_
      rintro e w' ⟨rfl, rfl⟩
      exact ⟨⟨_, true, rfl, fun _ => ⟨h0, h1, by simp⟩⟩, rfl⟩
    · refine (within_row t g off cap L w h0 h1 (by omega) hc).mono ?_
      rintro e w' ⟨⟨t', ok, rfl, hok⟩, rfl⟩
      exact ⟨⟨t', ok, rfl, fun h => ⟨(hok h).1, (hok h).2, by omega⟩⟩, rfl⟩
end Go.Proofs.Qxb6602534aMods
