/- Seat 622: the contracts of zzBit and zzSubset; the plain law: covering byte by byte is holding every bit. -/
import Derived.Test.Qxb6602622aModsC
namespace Go.Proofs.Qxb6602622aMods
open Go.ChangeShapes Go.WideShapes Go.ChangeAt Go.RowKit
set_option linter.unusedVariables false

def bitB (s : ByteArray) (i : Nat) : Bool := (byteAt s (i / 8)).testBit (i % 8)

/-! ### zzBit -/
theorem bit_spell (b k : Nat) (hb : b < 256) : (bits .and .u8 ((b : Int) / 2 ^ k) 1 == 1) = b.testBit k := by
  have e : ((b : Int) / 2 ^ k) = ((b / 2 ^ k : Nat) : Int) := by simp
  have hlt : b / 2 ^ k < 256 := Nat.lt_of_le_of_lt (Nat.div_le_self _ _) hb
  have e2 : bits .and .u8 ((b / 2 ^ k : Nat) : Int) 1 = ((b / 2 ^ k % 2 : Nat) : Int) := by
    have := u8_and_nat (b / 2 ^ k) 1 hlt (by omega)
    rw [nat_mask1] at this
    exact this
  rw [e, e2, Nat.testBit_eq_decide_div_mod_eq]
  have h2 : b / 2 ^ k % 2 < 2 := Nat.mod_lt _ (by omega)
  generalize b / 2 ^ k % 2 = r at *
  rcases (show r = 0 ∨ r = 1 by omega) with rfl | rfl <;> rfl

theorem bit_out (s : ByteArray) (i : Nat) (w : World) (hi : (i : Int) ≤ 16777216) (h : (s.size : Int) ≤ (i : Int) / 8) :
    Calls Trym.prog 25 #[.string s, .int .i64 (i : Int)] w fun e w' => e = .returned (.bool false) ∧ w' = w := by
  go_enter Trym.func25, Trym.ntmps25
  go_wp2
  go_ret
  exact ⟨rfl, rfl⟩

theorem bit_in (s : ByteArray) (i : Nat) (w : World) (hi : (i : Int) ≤ 16777216) (h : (i : Int) / 8 < (s.size : Int)) :
    Calls Trym.prog 25 #[.string s, .int .i64 (i : Int)] w fun e w' => e = .returned (.bool (bitB s i)) ∧ w' = w := by
  have hlt : i / 8 < s.size := by omega
  have hb : (bits .and .u8 ((s[i / 8].toNat : Int) / 2 ^ (i % 8)) 1 == 1) = bitB s i := by
    rw [bit_spell _ _ (UInt8.toNat_lt _), ← byteAt_in s (i / 8) hlt]; rfl
  have HB := hidden hb
  clear hb
  go_enter Trym.func25, Trym.ntmps25
  go_wp2
  go_ret
  exact ⟨by rw [← HB.out]; rfl, rfl⟩

theorem bit_any (s : ByteArray) (i : Nat) (w : World) (hi : (i : Int) ≤ 16777216) :
    Calls Trym.prog 25 #[.string s, .int .i64 (i : Int)] w fun e w' => e = .returned (.bool (bitB s i)) ∧ w' = w := by
  by_cases h : i / 8 < s.size
  · exact bit_in s i w hi (by omega)
  · have e : bitB s i = false := by unfold bitB; rw [byteAt_out _ _ (by omega)]; simp
    rw [e]
    exact bit_out s i w hi (by omega)

/-! ### zzSubset -/
def subB (b a : ByteArray) : Bool := (List.range (8 * b.size)).all fun i => !bitB b i || bitB a i
theorem subB_iff (b a : ByteArray) : subB b a = true ↔ ∀ i, i < 8 * b.size → bitB b i = true → bitB a i = true := by
  unfold subB
  rw [List.all_eq_true]
  constructor
  · intro h i hi hb
    have := h i (List.mem_range.2 hi)
    rw [hb] at this
    simpa using this
  · intro h i hi
    have := h i (List.mem_range.1 hi)
    cases hb : bitB b i
    · rfl
    · simpa using this hb

set_option maxHeartbeats 1000000 in
theorem subset_any (b a : ByteArray) (w : World) (hb : b.size ≤ 1048576) :
    Calls Trym.prog 14 #[.string b, .string a] w fun e w' => e = .returned (.bool (subB b a)) ∧ w' = w := by
  go_enter Trym.func14, Trym.ntmps14
  go_wp2
  go_loop [5] (fun i => ∃ k : Nat, k ≤ 8 * b.size ∧ i = .int .i64 k ∧ ∀ j, j < k → bitB b j = true → bitB a j = true) (fun i => 8 * b.size - (intOf i).toNat)
  case atStart => exact ⟨0, Nat.zero_le _, rfl, fun j hj => absurd hj (Nat.not_lt_zero _)⟩
  case round =>
    obtain ⟨k, hk, rfl, hr⟩ := hrel
    by_cases hlt : k < 8 * b.size
    · have hi : (k : Int) ≤ 16777216 := by omega
      have hlt' : (k : Int) < 8 * (b.size : Int) := by omega
      cases hq : bitB b k
      · have hr2 : ∀ j, j < k + 1 → bitB b j = true → bitB a j = true := fun j hj hj2 => by
          by_cases e : j = k
          · rw [e, hq] at hj2; cases hj2
          · exact hr j (by omega) hj2
        have HR := hidden hr2
        have HQ := hidden hq
        clear hr hr2 hq
        go_wp2_with fail
        refine (bit_any b k _ hi).mono ?_
        rw [HQ.out]
        rintro e w ⟨rfl, rfl⟩
        go_wp2
        go_round
        case rel => exact ⟨k + 1, by omega, by go_num, HR.out⟩
        case measure => simp [intOf]; omega
      · cases hq2 : bitB a k
        · have hs : subB b a = false := by
            cases hs : subB b a
            · rfl
            · have := (subB_iff b a).1 hs k hlt hq
              rw [hq2] at this; cases this
          have HS := hidden hs
          have HQ := hidden hq
          have HQ2 := hidden hq2
          clear hr hq hq2 hs
          go_wp2_with fail
          refine (bit_any b k _ hi).mono ?_
          rw [HQ.out]
          rintro e w ⟨rfl, rfl⟩
          go_wp2_with fail
          refine (bit_any a k _ hi).mono ?_
          rw [HQ2.out]
          rintro e w ⟨rfl, rfl⟩
          go_wp2
          go_ret
          exact ⟨by rw [HS.out]; rfl, rfl⟩
        · have hr2 : ∀ j, j < k + 1 → bitB b j = true → bitB a j = true := fun j hj hj2 => by
            by_cases e : j = k
            · rw [e]; exact hq2
            · exact hr j (by omega) hj2
          have HR := hidden hr2
          have HQ := hidden hq
          have HQ2 := hidden hq2
          clear hr hr2 hq hq2
          go_wp2_with fail
          refine (bit_any b k _ hi).mono ?_
          rw [HQ.out]
          rintro e w ⟨rfl, rfl⟩
          go_wp2_with fail
          refine (bit_any a k _ hi).mono ?_
          rw [HQ2.out]
          rintro e w ⟨rfl, rfl⟩
          go_wp2
          go_round
          case rel => exact ⟨k + 1, by omega, by go_num, HR.out⟩
          case measure => simp [intOf]; omega
    · have hs : subB b a = true := (subB_iff b a).2 fun i hi => hr i (by omega)
      have HS := hidden hs
      have hge : 8 * (b.size : Int) ≤ (k : Int) := by omega
      clear hr hs
      go_wp2
      go_ret
      exact ⟨by rw [HS.out]; rfl, rfl⟩

/-! ### The plain law -/
theorem testBit_high {b j : Nat} (hb : b < 256) (hj : 8 ≤ j) : b.testBit j = false := by
  apply Nat.testBit_lt_two_pow
  calc b < 2 ^ 8 := hb
    _ ≤ 2 ^ j := Nat.pow_le_pow_right (by omega) hj
theorem bitB_at (s : ByteArray) (q j : Nat) (hj : j < 8) : bitB s (8 * q + j) = (byteAt s q).testBit j := by
  unfold bitB
  rw [show (8 * q + j) / 8 = q by omega, show (8 * q + j) % 8 = j by omega]
theorem cover_bits {a b : Nat} (hb : b < 256) (h : ∀ j, j < 8 → b.testBit j = true → a.testBit j = true) : a &&& b = b := by
  apply Nat.eq_of_testBit_eq
  intro j
  rw [Nat.testBit_and]
  by_cases hj : j < 8
  · have := h j hj
    cases hbj : b.testBit j
    · simp
    · simp [this hbj]
  · rw [testBit_high hb (by omega)]; simp
theorem some_bit {b : Nat} (hb : b < 256) (h0 : b ≠ 0) : ∃ j, j < 8 ∧ b.testBit j = true := by
  obtain ⟨j, hj⟩ := Nat.exists_testBit_of_ne_zero h0
  refine ⟨j, ?_, hj⟩
  rcases Nat.lt_or_ge j 8 with h | h
  · exact h
  · rw [testBit_high hb h] at hj; cases hj
theorem sub_iff_cov (ca cb : ByteArray) (hz : endsZ cb = false) : subB cb ca = (decide (cb.size ≤ ca.size) && cov ca cb) := by
  rw [Bool.eq_iff_iff, subB_iff, Bool.and_eq_true, cov_iff, decide_eq_true_eq]
  constructor
  · intro h
    have key : ∀ q j, q < cb.size → j < 8 → (byteAt cb q).testBit j = true → (byteAt ca q).testBit j = true := by
      intro q j hq hj hb
      have := h (8 * q + j) (by omega)
      rw [bitB_at _ _ _ hj, bitB_at _ _ _ hj] at this
      exact this hb
    refine ⟨?_, fun i hi => cover_bits (byteAt_lt _ _) (fun j hj hb => key i j hi hj hb)⟩
    by_cases hs : cb.size ≤ ca.size
    · exact hs
    · exfalso
      have h0 : 0 < cb.size := by omega
      have hne : byteAt cb (cb.size - 1) ≠ 0 := by
        intro e
        simp [endsZ, h0, e] at hz
      obtain ⟨j, hj, hb⟩ := some_bit (byteAt_lt _ _) hne
      have := key (cb.size - 1) j (by omega) hj hb
      rw [byteAt_out ca _ (by omega)] at this
      simp at this
  · rintro ⟨hs, hc⟩ i hi hb
    have e := hc (i / 8) (by omega)
    unfold bitB at hb ⊢
    rw [← e, Nat.testBit_and] at hb
    simp only [Bool.and_eq_true] at hb
    exact hb.1
end Go.Proofs.Qxb6602622aMods
