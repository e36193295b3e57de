/- Seat 534: the contracts of the two zzBytes functions. -/
import Derived.Test.Qxb6602534aModsB
namespace Go.Proofs.Qxb6602534aMods
open Go.ChangeShapes Go.WideShapes Go.ChangeAt Go.RowKit
set_option linter.unusedVariables false

/-- The call returned a yes or a no. -/
def BOk (e : Ending) : Prop := ∃ b : Bool, e = .returned (.bool b)
theorem bok (b : Bool) : BOk (.returned (.bool b)) := ⟨b, rfl⟩

set_option maxHeartbeats 2000000 in
theorem zz1_row (kind : ByteArray) (aA : Option Addr) (capA : Nat) (A : List ByteArray) (aB : Option Addr) (capB : Nat) (B : List ByteArray) (w : World)
    (hA : A = [] ∨ ∃ g off, aA = some ⟨g, off, none⟩ ∧ ∀ i s, A[i]? = some s → w.cell? ⟨g, off + i, none⟩ = some (.string s)) (hB : B = [] ∨ ∃ g off, aB = some ⟨g, off, none⟩ ∧ ∀ i s, B[i]? = some s → w.cell? ⟨g, off + i, none⟩ = some (.string s)) :
    Calls Trym.prog 6 #[.string kind, .slice aA A.length capA, .slice aB B.length capB] w fun e w' => BOk e ∧ w' = w := by
  have hidA : Hid _ := hA
  have hidB : Hid _ := hB
  clear hA hB
  by_cases t0 : (1048576 : Int) < (kind.size : Int)
  · go_enter Trym.func6, Trym.ntmps6
    go_wp2
    go_ret
    exact ⟨bok _, rfl⟩
  by_cases t1 : (1048576 : Int) < (A.length : Int)
  · go_enter Trym.func6, Trym.ntmps6
    go_wp2
    go_ret
    exact ⟨bok _, rfl⟩
  by_cases t2 : (1048576 : Int) < (kind.size : Int) + (A.length : Int)
  · go_enter Trym.func6, Trym.ntmps6
    go_wp2
    go_ret
    exact ⟨bok _, rfl⟩
  go_enter Trym.func6, Trym.ntmps6
  go_wp2
  go_loop [7, 8] (fun z i => ∃ (k : Nat) (u : Int), k ≤ A.length ∧ i = .int .i64 k ∧ z = .int .i64 u ∧ 0 ≤ u ∧ u ≤ 1048576) (fun _ i => A.length - (intOf i).toNat)
  case atStart => exact ⟨0, _, Nat.zero_le _, rfl, rfl, by omega, by omega⟩
  case round =>
    obtain ⟨k, uA, hk, rfl, rfl, hu0A, hu1A⟩ := hrel
    by_cases hlt : k < A.length
    · obtain ⟨g, off, hea, hc⟩ := hidA.out.resolve_left (fun h => by rw [h] at hlt; simp at hlt)
      obtain ⟨s, hs⟩ : ∃ s, A[k]? = some s := ⟨_, List.getElem?_eq_getElem hlt⟩
      have c1 := hc k s hs
      clear hc hs
      by_cases hs1 : (1048576 : Int) < (s.size : Int)
      · go_wp2
        go_ret
        exact ⟨bok _, rfl⟩
      · by_cases hs2 : (1048576 : Int) < uA + (s.size : Int)
        · go_wp2
          go_ret
          exact ⟨bok _, rfl⟩
        · go_wp2
          go_round
          case rel => exact ⟨k + 1, _, by omega, by go_num, rfl, by omega, by omega⟩
          case measure => simp [intOf]; omega
    · clear hk
      have hke : A.length ≤ k := by omega
      clear hlt
      by_cases t3 : (1048576 : Int) < (B.length : Int)
      · go_wp2
        go_ret
        exact ⟨bok _, rfl⟩
      by_cases t4 : (1048576 : Int) < uA + (B.length : Int)
      · go_wp2
        go_ret
        exact ⟨bok _, rfl⟩
      go_wp2
      go_loop [7, 9] (fun z i => ∃ (k : Nat) (u : Int), k ≤ B.length ∧ i = .int .i64 k ∧ z = .int .i64 u ∧ 0 ≤ u ∧ u ≤ 1048576) (fun _ i => B.length - (intOf i).toNat)
      case atStart => exact ⟨0, _, Nat.zero_le _, rfl, rfl, by omega, by omega⟩
      case round =>
        obtain ⟨k, uB, hk, rfl, rfl, hu0B, hu1B⟩ := hrel
        by_cases hlt : k < B.length
        · obtain ⟨g, off, hea, hc⟩ := hidB.out.resolve_left (fun h => by rw [h] at hlt; simp at hlt)
          obtain ⟨s, hs⟩ : ∃ s, B[k]? = some s := ⟨_, List.getElem?_eq_getElem hlt⟩
          have c1 := hc k s hs
          clear hc hs
          by_cases hs1 : (1048576 : Int) < (s.size : Int)
          · go_wp2
            go_ret
            exact ⟨bok _, rfl⟩
          · by_cases hs2 : (1048576 : Int) < uB + (s.size : Int)
            · go_wp2
              go_ret
              exact ⟨bok _, rfl⟩
            · go_wp2
              go_round
              case rel => exact ⟨k + 1, _, by omega, by go_num, rfl, by omega, by omega⟩
              case measure => simp [intOf]; omega
        · clear hk
          have hke : B.length ≤ k := by omega
          clear hlt
          go_wp2
          go_ret
          exact ⟨bok _, rfl⟩

set_option maxHeartbeats 2000000 in
theorem zz2_row (kind : ByteArray) (other : ByteArray) (aA : Option Addr) (capA : Nat) (A : List ByteArray) (aB : Option Addr) (capB : Nat) (B : List ByteArray) (aC : Option Addr) (capC : Nat) (C : List ByteArray) (w : World)
    (hA : A = [] ∨ ∃ g off, aA = some ⟨g, off, none⟩ ∧ ∀ i s, A[i]? = some s → w.cell? ⟨g, off + i, none⟩ = some (.string s)) (hB : B = [] ∨ ∃ g off, aB = some ⟨g, off, none⟩ ∧ ∀ i s, B[i]? = some s → w.cell? ⟨g, off + i, none⟩ = some (.string s)) (hC : C = [] ∨ ∃ g off, aC = some ⟨g, off, none⟩ ∧ ∀ i s, C[i]? = some s → w.cell? ⟨g, off + i, none⟩ = some (.string s)) :
    Calls Trym.prog 12 #[.string kind, .string other, .slice aA A.length capA, .slice aB B.length capB, .slice aC C.length capC] w fun e w' => BOk e ∧ w' = w := by
  have hidA : Hid _ := hA
  have hidB : Hid _ := hB
  have hidC : Hid _ := hC
  clear hA hB hC
  by_cases t0 : (1048576 : Int) < (kind.size : Int)
  · go_enter Trym.func12, Trym.ntmps12
    go_wp2
    go_ret
    exact ⟨bok _, rfl⟩
  by_cases t1 : (1048576 : Int) < (other.size : Int)
  · go_enter Trym.func12, Trym.ntmps12
    go_wp2
    go_ret
    exact ⟨bok _, rfl⟩
  by_cases t2 : (1048576 : Int) < (kind.size : Int) + (other.size : Int)
  · go_enter Trym.func12, Trym.ntmps12
    go_wp2
    go_ret
    exact ⟨bok _, rfl⟩
  by_cases t3 : (1048576 : Int) < (A.length : Int)
  · go_enter Trym.func12, Trym.ntmps12
    go_wp2
    go_ret
    exact ⟨bok _, rfl⟩
  by_cases t4 : (1048576 : Int) < (kind.size : Int) + (other.size : Int) + (A.length : Int)
  · go_enter Trym.func12, Trym.ntmps12
    go_wp2
    go_ret
    exact ⟨bok _, rfl⟩
  go_enter Trym.func12, Trym.ntmps12
  go_wp2
  go_loop [11, 12] (fun z i => ∃ (k : Nat) (u : Int), k ≤ A.length ∧ i = .int .i64 k ∧ z = .int .i64 u ∧ 0 ≤ u ∧ u ≤ 1048576) (fun _ i => A.length - (intOf i).toNat)
  case atStart => exact ⟨0, _, Nat.zero_le _, rfl, rfl, by omega, by omega⟩
  case round =>
    obtain ⟨k, uA, hk, rfl, rfl, hu0A, hu1A⟩ := hrel
    by_cases hlt : k < A.length
    · obtain ⟨g, off, hea, hc⟩ := hidA.out.resolve_left (fun h => by rw [h] at hlt; simp at hlt)
      obtain ⟨s, hs⟩ : ∃ s, A[k]? = some s := ⟨_, List.getElem?_eq_getElem hlt⟩
      have c1 := hc k s hs
      clear hc hs
      by_cases hs1 : (1048576 : Int) < (s.size : Int)
      · go_wp2
        go_ret
        exact ⟨bok _, rfl⟩
      · by_cases hs2 : (1048576 : Int) < uA + (s.size : Int)
        · go_wp2
          go_ret
          exact ⟨bok _, rfl⟩
        · go_wp2
          go_round
          case rel => exact ⟨k + 1, _, by omega, by go_num, rfl, by omega, by omega⟩
          case measure => simp [intOf]; omega
    · clear hk
      have hke : A.length ≤ k := by omega
      clear hlt
      by_cases t5 : (1048576 : Int) < (B.length : Int)
      · go_wp2
        go_ret
        exact ⟨bok _, rfl⟩
      by_cases t6 : (1048576 : Int) < uA + (B.length : Int)
      · go_wp2
        go_ret
        exact ⟨bok _, rfl⟩
      go_wp2
      go_loop [11, 13] (fun z i => ∃ (k : Nat) (u : Int), k ≤ B.length ∧ i = .int .i64 k ∧ z = .int .i64 u ∧ 0 ≤ u ∧ u ≤ 1048576) (fun _ i => B.length - (intOf i).toNat)
      case atStart => exact ⟨0, _, Nat.zero_le _, rfl, rfl, by omega, by omega⟩
      case round =>
        obtain ⟨k, uB, hk, rfl, rfl, hu0B, hu1B⟩ := hrel
        by_cases hlt : k < B.length
        · obtain ⟨g, off, hea, hc⟩ := hidB.out.resolve_left (fun h => by rw [h] at hlt; simp at hlt)
          obtain ⟨s, hs⟩ : ∃ s, B[k]? = some s := ⟨_, List.getElem?_eq_getElem hlt⟩
          have c1 := hc k s hs
          clear hc hs
          by_cases hs1 : (1048576 : Int) < (s.size : Int)
          · go_wp2
            go_ret
            exact ⟨bok _, rfl⟩
          · by_cases hs2 : (1048576 : Int) < uB + (s.size : Int)
            · go_wp2
              go_ret
              exact ⟨bok _, rfl⟩
            · go_wp2
              go_round
              case rel => exact ⟨k + 1, _, by omega, by go_num, rfl, by omega, by omega⟩
              case measure => simp [intOf]; omega
        · clear hk
          have hke : B.length ≤ k := by omega
          clear hlt
          by_cases t7 : (1048576 : Int) < (C.length : Int)
          · go_wp2
            go_ret
            exact ⟨bok _, rfl⟩
          by_cases t8 : (1048576 : Int) < uB + (C.length : Int)
          · go_wp2
            go_ret
            exact ⟨bok _, rfl⟩
          go_wp2
          go_loop [11, 14] (fun z i => ∃ (k : Nat) (u : Int), k ≤ C.length ∧ i = .int .i64 k ∧ z = .int .i64 u ∧ 0 ≤ u ∧ u ≤ 1048576) (fun _ i => C.length - (intOf i).toNat)
          case atStart => exact ⟨0, _, Nat.zero_le _, rfl, rfl, by omega, by omega⟩
          case round =>
            obtain ⟨k, uC, hk, rfl, rfl, hu0C, hu1C⟩ := hrel
            by_cases hlt : k < C.length
            · obtain ⟨g, off, hea, hc⟩ := hidC.out.resolve_left (fun h => by rw [h] at hlt; simp at hlt)
              obtain ⟨s, hs⟩ : ∃ s, C[k]? = some s := ⟨_, List.getElem?_eq_getElem hlt⟩
              have c1 := hc k s hs
              clear hc hs
              by_cases hs1 : (1048576 : Int) < (s.size : Int)
              · go_wp2
                go_ret
                exact ⟨bok _, rfl⟩
              · by_cases hs2 : (1048576 : Int) < uC + (s.size : Int)
                · go_wp2
                  go_ret
                  exact ⟨bok _, rfl⟩
                · go_wp2
                  go_round
                  case rel => exact ⟨k + 1, _, by omega, by go_num, rfl, by omega, by omega⟩
                  case measure => simp [intOf]; omega
            · clear hk
              have hke : C.length ≤ k := by omega
              clear hlt
              go_wp2
              go_ret
              exact ⟨bok _, rfl⟩

theorem zz1_any (kind : ByteArray) (va vb : Value) (A B : List ByteArray) (w : World) (ha : Has w va A) (hb : Has w vb B) :
    Calls Trym.prog 6 #[.string kind, va, vb] w fun e w' => BOk e ∧ w' = w := by
  obtain ⟨a, ca, rfl, ha⟩ := ha
  obtain ⟨b, cb, rfl, hb⟩ := hb
  exact zz1_row kind a ca A b cb B w ha hb

theorem zz2_any (kind other : ByteArray) (va vb vc : Value) (A B C : List ByteArray) (w : World) (ha : Has w va A) (hb : Has w vb B) (hc : Has w vc C) :
    Calls Trym.prog 12 #[.string kind, .string other, va, vb, vc] w fun e w' => BOk e ∧ w' = w := by
  obtain ⟨a, ca, rfl, ha⟩ := ha
  obtain ⟨b, cb, rfl, hb⟩ := hb
  obtain ⟨c, cc, rfl, hc⟩ := hc
  exact zz2_row kind other a ca A b cb B c cc C w ha hb hc
end Go.Proofs.Qxb6602534aMods
