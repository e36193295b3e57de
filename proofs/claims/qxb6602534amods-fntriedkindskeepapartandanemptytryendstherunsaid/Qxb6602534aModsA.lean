/- Seat 534: lists of strings in memory; the contracts of kbB1Member, kbB1NotIn, kbB1Same, kbB1Clone, kbB1Within. -/
import Derived.Test.Qxb6602534aModsRows
import Derived.WalkKit
import Derived.ProofKit
import Derived.OpenShut
import Derived.ChangeOld
import Derived.Below
import Derived.WalkLawsBesides
import Derived.WalkSpells
import Derived.Maps.AppendAt
import Derived.Deep.QuietTactic
import Derived.BigQuiet
namespace Go.Proofs.Qxb6602534aMods
open Go.ChangeShapes Go.WideShapes Go.ChangeAt Go.RowKit
set_option linter.unusedVariables false

/-! ### The plain side -/
def memb (x : ByteArray) (L : List ByteArray) : Bool := L.any (fun y => y.toList == x.toList)
def notIn (A L : List ByteArray) : List ByteArray := A.filter (fun s => !memb s L)
theorem notIn_len (A L : List ByteArray) : (notIn A L).length ≤ A.length := List.length_filter_le _ _
theorem notIn_yes (A L : List ByteArray) (s : ByteArray) (h : memb s L = false) : notIn (A ++ [s]) L = notIn A L ++ [s] := by simp [notIn, h]
theorem notIn_no (A L : List ByteArray) (s : ByteArray) (h : memb s L = true) : notIn (A ++ [s]) L = notIn A L := by simp [notIn, h]
theorem take_snoc {A : List ByteArray} {k : Nat} {s : ByteArray} (h : A[k]? = some s) : A.take (k + 1) = A.take k ++ [s] := by
  rw [List.take_add_one, h]; rfl

/-- The slice value v holds the strings L in the world w. -/
def Has (w : World) (v : Value) (L : List ByteArray) : Prop :=
  ∃ a cap, v = .slice a L.length cap ∧ (L = [] ∨ ∃ g off, a = some ⟨g, off, none⟩ ∧ ∀ i s, L[i]? = some s → w.cell? ⟨g, off + i, none⟩ = some (.string s))

/-! ### kbB1Member -/
theorem member_empty (x : ByteArray) (a : Option Addr) (cap : Nat) (w : World) :
    Calls Trym.prog 14 #[.string x, .slice a 0 cap] w fun e w' => e = .returned (.bool false) ∧ w' = w := by
  go_enter Trym.func14, Trym.ntmps14
  go_wp2
  refine wp_loop_rounds 1 ?_
  rw [rounds_succ]
  go_wp2
  go_ret
  exact ⟨rfl, rfl⟩

theorem member_row (x : ByteArray) (g off cap : Nat) (L : List ByteArray) (w : World) (hl : L.length ≤ 1048576)
    (hc : ∀ i s, L[i]? = some s → w.cell? ⟨g, off + i, none⟩ = some (.string s)) :
    Calls Trym.prog 14 #[.string x, .slice (some ⟨g, off, none⟩) L.length cap] w fun e w' => e = .returned (.bool (memb x L)) ∧ w' = w := by
  go_enter Trym.func14, Trym.ntmps14
  go_wp2
  go_loop [5] (fun i => ∃ k : Nat, k ≤ L.length ∧ i = .int .i64 k ∧ memb x (L.take k) = false) (fun i => L.length - (intOf i).toNat)
  case atStart => exact ⟨0, Nat.zero_le _, rfl, rfl⟩
  case round =>
    obtain ⟨k, hk, rfl, hm⟩ := hrel
    by_cases hlt : k < L.length
    · obtain ⟨s, hs⟩ : ∃ s, L[k]? = some s := ⟨_, List.getElem?_eq_getElem hlt⟩
      have c1 := hc k s hs
      have hmem : s ∈ L := List.mem_of_getElem? hs
      cases hq : (s.toList == x.toList)
      · have hm2 : memb x (L.take (k + 1)) = false := by rw [take_snoc hs]; simp only [memb, List.any_append, List.any_cons, List.any_nil, Bool.or_false, hq]; exact hm
        have HM : Hid _ := hm2
        clear hm hm2 hs hc hmem
        go_wp2
        go_round
        case rel => exact ⟨k + 1, by omega, by go_num, HM.out⟩
        case measure => simp [intOf]; omega
      · have hy : memb x L = true := List.any_eq_true.2 ⟨s, hmem, hq⟩
        have HY : Hid _ := hy
        clear hm hs hc hmem hy
        go_wp2
        go_ret
        exact ⟨by rw [HY.out]; rfl, rfl⟩
    · have hke : L.take k = L := List.take_of_length_le (by omega)
      rw [hke] at hm
      have HM : Hid _ := hm
      clear hm hke hc
      go_wp2
      go_ret
      exact ⟨by rw [HM.out]; rfl, rfl⟩

theorem member_any (x : ByteArray) (v : Value) (L : List ByteArray) (w : World) (hl : L.length ≤ 1048576) (h : Has w v L) :
    Calls Trym.prog 14 #[.string x, v] w fun e w' => e = .returned (.bool (memb x L)) ∧ w' = w := by
  obtain ⟨a, cap, rfl, h⟩ := h
  rcases h with rfl | ⟨g, off, rfl, hc⟩
  · exact member_empty x a cap w
  · exact member_row x g off cap L w hl hc
/-! ### kbB1NotIn -/
theorem Trym.info9 : (Trym.prog.info? 9).map (fun i => (i.zero, i.size, i.bytes)) = some (some (.string ByteArray.empty), 1, 16) := by kernel_rfl
def vals (L : List ByteArray) : List Value := L.map Value.string
theorem vals_snoc (l : List ByteArray) (c : ByteArray) : vals (l ++ [c]) = vals l ++ [Value.string c] := by simp [vals]
theorem str_oneCell (s : ByteArray) : ∀ u ∈ [Value.string s], u.oneCell' = true := by
  intro u hu
  rw [List.mem_singleton] at hu
  subst hu
  rfl

/-- What is owned is held. -/
theorem has_of_owns {w : World} {base : Nat} {v : Value} {L : List ByteArray} (h : w.ownsRow base 9 1 v L.length (vals L)) : Has w v L := by
  rcases h.2 with ⟨rfl, h0⟩ | ⟨g, cap, cur, rfl, _⟩
  · have : L = [] := List.eq_nil_of_length_eq_zero h0
    subst this
    exact ⟨none, 0, rfl, .inl rfl⟩
  · refine ⟨_, cap, rfl, .inr ⟨g, 0, rfl, fun i s hi => ?_⟩⟩
    have hlt : i < L.length := (List.getElem?_eq_some_iff.1 hi).1
    rw [Nat.zero_add, h.cellAt i (by omega)]
    simp [vals, hi]

theorem own_block_ge {w : World} {base : Nat} {v : Value} {n : Nat} {xs : List Value} (h : w.ownsRow base 9 1 v n xs) : ∀ k, v.ownBlock = some k → base ≤ k := by
  intro k hk
  rcases h.2 with ⟨rfl, _⟩ | ⟨g, cap, cur, rfl, hb, _⟩
  · cases hk
  · cases hk; exact hb

theorem not_nil_of (v' : Value) (v : Value) (h : v' = .slice none 0 0 ↔ v = .slice none 0 0 ∧ 1 = 0) : v' ≠ .slice none 0 0 := fun e => by simpa using (h.1 e).2

theorem notin_empty (a : Option Addr) (cap : Nat) (vp : Value) (w : World) :
    Calls Trym.prog 11 #[.slice a 0 cap, vp] w fun e w' => e = .returned (.slice none 0 0) ∧ w' = w := by
  go_enter Trym.func11, Trym.ntmps11
  go_wp2
  refine wp_loop_rounds 1 ?_
  rw [rounds_succ]
  go_wp2
  go_ret
  exact ⟨rfl, rfl⟩

theorem Has.below {w w' : World} {v : Value} {L : List ByteArray} (h : Has w v L) (hb : Below w.heap.size w w') : Has w' v L := by
  obtain ⟨a, cap, rfl, h⟩ := h
  refine ⟨a, cap, rfl, ?_⟩
  rcases h with h | ⟨g, off, rfl, hc⟩
  · exact .inl h
  · exact .inr ⟨g, off, rfl, fun i s hi => (hb.cell (block_lt_of_cell (hc i s hi))).trans (hc i s hi)⟩

set_option maxHeartbeats 1000000 in
theorem notin_row (g off cap : Nat) (B : List ByteArray) (vp : Value) (L : List ByteArray) (w : World) (hB : B.length ≤ 1048576) (hL : L.length ≤ 1048576)
    (hc : ∀ i s, B[i]? = some s → w.cell? ⟨g, off + i, none⟩ = some (.string s)) (hp : Has w vp L) :
    Calls Trym.prog 11 #[.slice (some ⟨g, off, none⟩) B.length cap, vp] w fun e w' => ∃ v, e = .returned v ∧ w'.ownsRow w.heap.size 9 1 v (notIn B L).length (vals (notIn B L)) ∧ (notIn B L = [] → v = .slice none 0 0) ∧ Below w.heap.size w w' := by
  obtain ⟨i0, hi, hz0, hz1, hz2⟩ := info_parts Trym.info9
  go_enter Trym.func11, Trym.ntmps11
  go_wp2
  go_loopw [5, 6] (fun v i wr => ∃ k : Nat, k ≤ B.length ∧ i = .int .i64 k ∧ wr.ownsRow w.heap.size 9 1 v (notIn (B.take k) L).length (vals (notIn (B.take k) L)) ∧ (notIn (B.take k) L = [] → v = .slice none 0 0) ∧ Below w.heap.size w wr) (fun _ i _ => B.length - (intOf i).toNat)
  case atStart => exact ⟨0, Nat.zero_le _, rfl, World.ownsRow_nil _ _ _ _, fun _ => rfl, Below.refl _ _⟩
  case round =>
    obtain ⟨k, hk, rfl, hown, hnil, hb⟩ := hrel
    by_cases hlt : k < B.length
    · obtain ⟨s, hs⟩ : ∃ s, B[k]? = some s := ⟨_, List.getElem?_eq_getElem hlt⟩
      have c1 : wr.cell? ⟨g, off + k, none⟩ = some (.string s) := (hb.cell (block_lt_of_cell (hc k s hs))).trans (hc k s hs)
      have hts := take_snoc hs
      have hkl : (notIn (B.take k) L).length ≤ k := Nat.le_trans (notIn_len _ _) (by simp; omega)
      have HP : Hid (Has wr vp L) := hp.below hb
      cases hq : memb s L
      · have hsn : notIn (B.take (k + 1)) L = notIn (B.take k) L ++ [s] := by rw [hts, notIn_yes _ _ _ hq]
        have HS : Hid _ := hsn
        clear hsn hts hs hc hp hnil
        generalize notIn (B.take k) L = K at *
        go_wp2_with (first | (go_at_call 14; refine (member_any _ _ L _ hL HP.out).mono ?_; rw [hq]; rintro e w' ⟨rfl, rfl⟩) | (at_builtin; refine wpList_append_own _ rfl _ _ 22 rfl w.heap.size 9 i0 (.string ByteArray.empty) 1 16 Trym.underlying22 hi hz0 hz1 hz2 rfl (by decide) _ _ _ rfl (hown.alloc _) ⟨_, 0, none⟩ 1 1 [.string s] rfl rfl (cell_one_new _ _ _) (str_oneCell s) ?c3 ?c4 ?c5 ?_))
        case c3 => unfold maxLen; omega
        case c4 => omega
        case c5 => have := hb.size; simp; omega
        intro v' w2 hown2 hgrow2 hnn
        have hb2 := (hb.alloc hb.size (.cells #[Value.string s] 9)).grown hgrow2 (by have := hb.size; simp; omega) (own_block_ge hown)
        have HO : Hid _ := hown2
        clear hown2 hgrow2 hown hb HP c1
        go_wp2
        go_roundw
        case rel =>
          refine ⟨k + 1, by omega, by go_num, ?_, fun h => ?_, hb2⟩
          · rw [HS.out, vals_snoc, List.length_append]; exact HO.out
          · rw [HS.out] at h; simp at h
        case measure => simp [intOf]; omega
      · have hsn : notIn (B.take (k + 1)) L = notIn (B.take k) L := by rw [hts, notIn_no _ _ _ hq]
        have HS : Hid _ := hsn
        have HN : Hid _ := hnil
        clear hsn hts hs hc hp hnil
        generalize notIn (B.take k) L = K at *
        go_wp2_with (go_at_call 14; refine (member_any _ _ L _ hL HP.out).mono ?_; rw [hq]; rintro e w' ⟨rfl, rfl⟩)
        go_roundw
        case rel =>
          refine ⟨k + 1, by omega, by go_num, ?_, fun h => ?_, hb⟩
          · rw [HS.out]; exact hown
          · rw [HS.out] at h; exact HN.out h
        case measure => simp [intOf]; omega
    · have hke : B.take k = B := List.take_of_length_le (by omega)
      rw [hke] at hown hnil
      have HN : Hid _ := hnil
      clear hke hnil hc hp
      go_wp2
      go_ret
      exact ⟨_, rfl, hown, HN.out, hb⟩

theorem notin_any (vb vp : Value) (B L : List ByteArray) (w : World) (hB : B.length ≤ 1048576) (hL : L.length ≤ 1048576) (hb : Has w vb B) (hp : Has w vp L) :
    Calls Trym.prog 11 #[vb, vp] w fun e w' => ∃ v, e = .returned v ∧ Has w' v (notIn B L) ∧ (notIn B L = [] → v = .slice none 0 0) ∧ Below w.heap.size w w' := by
  obtain ⟨a, cap, rfl, h⟩ := hb
  rcases h with rfl | ⟨g, off, rfl, hc⟩
  · refine (notin_empty a cap vp w).mono ?_
    rintro e w' ⟨rfl, rfl⟩
    exact ⟨_, rfl, ⟨none, 0, rfl, .inl rfl⟩, fun _ => rfl, Below.refl _ _⟩
  · refine (notin_row g off cap B vp L w hB hL hc hp).mono ?_
    rintro e w' ⟨v, rfl, hown, hnil, hbel⟩
    exact ⟨v, rfl, has_of_owns hown, hnil, hbel⟩

/-! ### kbB1Same: at one list -/
theorem same_nil (w : World) :
    Calls Trym.prog 10 #[.slice none 0 0, .slice none 0 0] w fun e w' => e = .returned (.bool true) ∧ ∃ n, w' = w.drewN n := by
  have hnil := fun (w : World) (a : Option Addr) (n c : Nat) => Lib.run_eql_slice_nil (P := Trym.prog) w 22 9 a n c 0 0 Trym.underlying22
  go_enter Trym.func10, Trym.ntmps10
  go_wp2
  refine wp_loop_rounds 1 ?_
  rw [rounds_succ]
  go_wp2
  go_ret
  exact ⟨rfl, 0, rfl⟩

set_option maxHeartbeats 1000000 in
theorem same_row (g off cap g' off' cap' : Nat) (L : List ByteArray) (w : World) (hL : L.length ≤ 1048576)
    (hc : ∀ i s, L[i]? = some s → w.cell? ⟨g, off + i, none⟩ = some (.string s)) (hc' : ∀ i s, L[i]? = some s → w.cell? ⟨g', off' + i, none⟩ = some (.string s)) :
    Calls Trym.prog 10 #[.slice (some ⟨g, off, none⟩) L.length cap, .slice (some ⟨g', off', none⟩) L.length cap'] w fun e w' => e = .returned (.bool true) ∧ ∃ n, w' = w.drewN n := by
  have hnil := fun (w : World) (a : Option Addr) (n c : Nat) => Lib.run_eql_slice_nil (P := Trym.prog) w 22 9 a n c 0 0 Trym.underlying22
  go_enter Trym.func10, Trym.ntmps10
  go_wp2
  go_loopw [5] (fun i wr => ∃ k n : Nat, k ≤ L.length ∧ i = .int .i64 k ∧ wr = w.drewN n) (fun i _ => L.length - (intOf i).toNat)
  case atStart => exact ⟨0, 0, Nat.zero_le _, rfl, rfl⟩
  case round =>
    obtain ⟨k, n, hk, rfl, rfl⟩ := hrel
    by_cases hlt : k < L.length
    · obtain ⟨s, hs⟩ : ∃ s, L[k]? = some s := ⟨_, List.getElem?_eq_getElem hlt⟩
      have c1 := hc k s hs
      have c2 := hc' k s hs
      have hl1 : (k : Int) < (L.length : Int) := by omega
      clear hs hc hc'
      go_wp2
      go_quiet (fail)
      go_wp2
      go_roundw
      case rel => exact ⟨k + 1, _, by omega, by go_num, rfl⟩
      case measure => simp [intOf]; omega
    · clear hc hc'
      go_wp2
      go_ret
      exact ⟨rfl, _, rfl⟩

theorem same_any (vx vy : Value) (L : List ByteArray) (w : World) (hL : L.length ≤ 1048576) (hx : Has w vx L) (hy : Has w vy L) (nx : L = [] → vx = .slice none 0 0) (ny : L = [] → vy = .slice none 0 0) :
    Calls Trym.prog 10 #[vx, vy] w fun e w' => e = .returned (.bool true) ∧ ∃ n, w' = w.drewN n := by
  obtain ⟨a, cap, rfl, h⟩ := hx
  obtain ⟨a', cap', rfl, h'⟩ := hy
  by_cases h0 : L = []
  · rw [nx h0, ny h0]; exact same_nil w
  · rcases h with h | ⟨g, off, rfl, hc⟩
    · exact absurd h h0
    rcases h' with h' | ⟨g', off', rfl, hc'⟩
    · exact absurd h' h0
    exact same_row g off cap g' off' cap' L w hL hc hc'
end Go.Proofs.Qxb6602534aMods
