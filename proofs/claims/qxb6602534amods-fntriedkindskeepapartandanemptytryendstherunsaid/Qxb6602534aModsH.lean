/- Seat 534: the walk of the law FnTriedKindsKeepApartAndAnEmptyTryEndsTheRun. -/
import Derived.Test.Qxb6602534aModsG
namespace Go.Proofs.Qxb6602534aMods
open Go.ChangeShapes Go.WideShapes Go.ChangeAt Go.RowKit Go.Maps
set_option linter.unusedVariables false

/-! ### What is remembered of each kind, step by step -/
theorem keys_same {kind other : ByteArray} (h : (kind.toList == other.toList) = true) : kind.data.toList = other.data.toList := by
  rw [ByteArray.toList_eq, ByteArray.toList_eq] at h; simpa using h
theorem keys_apart {kind other : ByteArray} (h : (kind.toList == other.toList) = false) : ¬ kind.data.toList = other.data.toList := by
  rw [ByteArray.toList_eq, ByteArray.toList_eq] at h; simpa using h
theorem m1_same (kind other : ByteArray) (A : List ByteArray) (h : (kind.toList == other.toList) = true) : upd (fun _ => []) kind A other.data.toList = A := by
  simp [upd, keys_same h]
theorem m1_apart (kind other : ByteArray) (A : List ByteArray) (h : (kind.toList == other.toList) = false) : upd (fun _ => []) kind A other.data.toList = [] := by
  have := keys_apart h
  unfold upd
  rw [if_neg (fun e => this e.symm)]
theorem m2_same (kind other : ByteArray) (A B : List ByteArray) (h : (kind.toList == other.toList) = true) : upd (upd (fun _ => []) kind A) other B kind.data.toList = B := by
  unfold upd
  rw [if_pos (keys_same h)]
theorem m2_apart (kind other : ByteArray) (A B : List ByteArray) (h : (kind.toList == other.toList) = false) : upd (upd (fun _ => []) kind A) other B kind.data.toList = A := by
  unfold upd
  rw [if_neg (keys_apart h), if_pos rfl]
theorem m4 (M : List UInt8 → List ByteArray) (kind : ByteArray) : upd M kind [] kind.data.toList = [] := upd_same _ _ _
theorem m5_same (kind other : ByteArray) (A B C : List ByteArray) (h : (kind.toList == other.toList) = true) : upd (upd (upd (upd (upd (fun _ => []) kind A) other B) kind C) kind []) kind C other.data.toList = C := by
  unfold upd
  rw [if_pos (keys_same h).symm]
theorem m5_apart (kind other : ByteArray) (A B C : List ByteArray) (h : (kind.toList == other.toList) = false) : upd (upd (upd (upd (upd (fun _ => []) kind A) other B) kind C) kind []) kind C other.data.toList = B := by
  have hn : ¬ other.data.toList = kind.data.toList := fun e => keys_apart h e.symm
  unfold upd
  rw [if_neg hn, if_neg hn, if_neg hn, if_pos rfl]

set_option maxHeartbeats 4000000 in
theorem law2_same (kind other : ByteArray) (va vb vc : Value) (A B C : List ByteArray) (w : World) (hk : kind.size ≤ maxLen) (ho : other.size ≤ maxLen) (hsA : ∀ s ∈ A, s.size ≤ maxLen) (hsB : ∀ s ∈ B, s.size ≤ maxLen) (hsC : ∀ s ∈ C, s.size ≤ maxLen) (ha : Has w va A) (hb : Has w vb B) (hc : Has w vc C)
    (hk1 : ¬ (1048576 : Int) < (kind.size : Int)) (ho1 : ¬ (1048576 : Int) < (other.size : Int)) (hko : ¬ (1048576 : Int) < (kind.size : Int) + (other.size : Int)) (hq : (kind.toList == other.toList) = true) :
    Calls Trym.prog 4 #[.string kind, .string other, va, vb, vc] w fun e w' => e = .returned (.bool true) ∧ Below w.heap.size w w' := by
  have hne := hidden hq
  have E1 := hidden (m1_same kind other A hq)
  have E2 := hidden (m2_same kind other A B hq)
  have E4 := hidden (m4 (upd (upd (upd (fun _ => []) kind A) other B) kind C) kind)
  have E5 := hidden (m5_same kind other A B C hq)
  have HsA := hidden hsA
  have HsB := hidden hsB
  have HsC := hidden hsC
  have Ha := hidden ha
  have Hb := hidden hb
  have Hc := hidden hc
  have hnn := fun (w : World) (a : Option Addr) (n c : Nat) => run_neq_slice_nil_any (P := Trym.prog) w 22 9 a n c 0 0 Trym.underlying22
  clear hsA hsB hsC ha hb hc hne
  go_enter Trym.func4, Trym.ntmps4
  go_wp2_with fail
  refine (zz2_any _ _ _ _ _ A B C _ Ha.out Hb.out Hc.out).mono ?_
  rintro e w ⟨⟨b, rfl⟩, rfl⟩
  cases b
  · go_wp2
    go_ret
    exact ⟨rfl, Below.refl _ _⟩
  go_wp2_with fail
  refine (within_any _ _ A _ (by omega) (by omega) Ha.out).mono ?_
  rintro e w ⟨⟨t0, ok, rfl, hok⟩, rfl⟩
  cases ok
  · clear hok
    go_wp2
    go_ret
    exact ⟨rfl, Below.refl _ _⟩
  obtain ⟨ht00, ht10, hA⟩ := hok rfl
  clear hok
  go_wp2_with fail
  refine (within_any _ _ B _ ht00 ht10 Hb.out).mono ?_
  rintro e w ⟨⟨t1, ok, rfl, hok⟩, rfl⟩
  cases ok
  · clear hok
    go_wp2
    go_ret
    exact ⟨rfl, Below.refl _ _⟩
  obtain ⟨ht01, ht11, hB⟩ := hok rfl
  clear hok
  go_wp2_with fail
  refine (within_any _ _ C _ ht01 ht11 Hc.out).mono ?_
  rintro e w ⟨⟨t2, ok, rfl, hok⟩, rfl⟩
  cases ok
  · clear hok
    go_wp2
    go_ret
    exact ⟨rfl, Below.refl _ _⟩
  obtain ⟨ht02, ht12, hC⟩ := hok rfl
  clear hok
  go_wp2_with fail
  refine (clone_any _ A _ (by omega) Ha.out).mono ?_
  rintro e w1 ⟨va1, rfl, ha1, hb1⟩
  have Ha1 := hidden ha1
  have B1 := hidden hb1
  clear ha1 hb1
  go_wp2_with fail
  refine (clone_any _ B _ (by omega) (Hb.out.below B1.out)).mono ?_
  rintro e w2 ⟨vb2, rfl, hb2, hbe2⟩
  have Hb2 := hidden hb2
  have Ha2 := hidden (Ha1.out.below hbe2)
  have B2 := hidden (B1.out.trans (hbe2.mono B1.out.size))
  clear hb2 hbe2 Ha1
  go_wp2_with fail
  refine (clone_any _ C _ (by omega) (Hc.out.below B2.out)).mono ?_
  rintro e w3 ⟨vc3, rfl, hc3, hbe3⟩
  have Hc3 := hidden hc3
  have Ha3 := hidden (Ha2.out.below hbe3)
  have Hb3 := hidden (Hb2.out.below hbe3)
  have B3 := hidden (B2.out.trans (hbe3.mono B2.out.size))
  clear hc3 hbe3 Ha2 Hb2
  have HI0 := hidden (inv_fresh w3)
  have D0 := hidden ((Below.refl w3.heap.size w3).alloc (Nat.le_refl _) (.cells #[.map none] 29))
  go_wp2_with fail
  refine (tried_any w3.heap.size 0 _ kind va1 A _ (by omega) hk HsA.out (by omega) HI0.out (Ha3.out.below D0.out)).mono ?_
  rintro e x0 ⟨v0, rfl, hv, hn, hI, hb⟩
  have Hv := hidden hv
  have Hn := hidden hn
  have HIx := hidden hI
  have Dx := hidden (D0.out.trans hb)
  clear hv hn hI hb
  go_wp2_with fail
  refine (notin_any va1 (.slice none 0 0) A [] _ (by omega) (by simp) (Ha3.out.below Dx.out) (has_nil _)).mono ?_
  rintro e y0 ⟨u0, rfl, hv, hn, hb⟩
  have Hv2 := hidden hv
  have Hn2 := hidden hn
  have By := hidden hb
  clear hv hn hb
  go_wp2_with fail
  refine (same_any v0 u0 (notIn A []) _ (notIn_le hA) (Hv.out.below By.out) Hv2.out Hn.out Hn2.out).mono ?_
  rintro e z0 ⟨rfl, m0, rfl⟩
  have Bz := hidden (below_drewN By.out m0)
  have D1 := hidden (Dx.out.trans (Bz.out.mono Dx.out.size))
  have HI1 := hidden (HIx.out.below Bz.out)
  clear Hv Hn Hv2 Hn2 HIx Dx By Bz
  go_wp2_with fail
  refine (tried_any w3.heap.size 1 _ other vb2 B _ (by omega) ho HsB.out (by omega) HI1.out (Hb3.out.below D1.out)).mono ?_
  rintro e x1 ⟨v1, rfl, hv, hn, hI, hb⟩
  rw [E1.out] at hv hn
  have Hv := hidden hv
  have Hn := hidden hn
  have HIx := hidden hI
  have Dx := hidden (D1.out.trans hb)
  clear hv hn hI hb
  go_wp2_with fail
  refine (notin_any vb2 va1 B A _ (by omega) (by omega) (Hb3.out.below Dx.out) (Ha3.out.below Dx.out)).mono ?_
  rintro e y1 ⟨u1, rfl, hv, hn, hb⟩
  have Hv2 := hidden hv
  have Hn2 := hidden hn
  have By := hidden hb
  clear hv hn hb
  go_wp2_with fail
  refine (same_any v1 u1 (notIn B A) _ (notIn_le hB) (Hv.out.below By.out) Hv2.out Hn.out Hn2.out).mono ?_
  rintro e z1 ⟨rfl, m1, rfl⟩
  have Bz := hidden (below_drewN By.out m1)
  have D2 := hidden (Dx.out.trans (Bz.out.mono Dx.out.size))
  have HI2 := hidden (HIx.out.below Bz.out)
  clear Hv Hn Hv2 Hn2 HIx Dx By Bz
  go_wp2_with fail
  refine (tried_any w3.heap.size 2 _ kind vc3 C _ (by omega) hk HsC.out (by omega) HI2.out (Hc3.out.below D2.out)).mono ?_
  rintro e x2 ⟨v2, rfl, hv, hn, hI, hb⟩
  rw [E2.out] at hv hn
  have Hv := hidden hv
  have Hn := hidden hn
  have HIx := hidden hI
  have Dx := hidden (D2.out.trans hb)
  clear hv hn hI hb
  go_wp2_with fail
  refine (notin_any vc3 vb2 C B _ (by omega) (by omega) (Hc3.out.below Dx.out) (Hb3.out.below Dx.out)).mono ?_
  rintro e y2 ⟨u2, rfl, hv, hn, hb⟩
  have Hv2 := hidden hv
  have Hn2 := hidden hn
  have By := hidden hb
  clear hv hn hb
  go_wp2_with fail
  refine (same_any v2 u2 (notIn C B) _ (notIn_le hC) (Hv.out.below By.out) Hv2.out Hn.out Hn2.out).mono ?_
  rintro e z2 ⟨rfl, m2, rfl⟩
  have Bz := hidden (below_drewN By.out m2)
  have D3 := hidden (Dx.out.trans (Bz.out.mono Dx.out.size))
  have HI3 := hidden (HIx.out.below Bz.out)
  clear Hv Hn Hv2 Hn2 HIx Dx By Bz
  go_wp2_with fail
  refine (tried_any w3.heap.size 3 _ kind (.slice none 0 0) [] _ (by simp) hk (fun s hs => by cases hs) (by omega) HI3.out (has_nil _)).mono ?_
  rintro e x3 ⟨v3, rfl, hv, hn, hI, hb⟩
  obtain rfl : v3 = .slice none 0 0 := hn rfl
  have HI4 := hidden hI
  have D4 := hidden (D3.out.trans hb)
  clear hv hn hI hb
  go_wp2_with fail
  refine (tried_any w3.heap.size 4 _ kind vc3 C _ (by omega) hk HsC.out (by omega) HI4.out (Hc3.out.below D4.out)).mono ?_
  rintro e x4 ⟨v4, rfl, hv, hn, hI, hb⟩
  rw [E4.out] at hv hn
  have Hv := hidden hv
  have Hn := hidden hn
  have HIx := hidden hI
  have Dx := hidden (D4.out.trans hb)
  clear hv hn hI hb
  go_wp2_with fail
  refine (notin_any vc3 (.slice none 0 0) C [] _ (by omega) (by simp) (Hc3.out.below Dx.out) (has_nil _)).mono ?_
  rintro e y4 ⟨u4, rfl, hv, hn, hb⟩
  have Hv2 := hidden hv
  have Hn2 := hidden hn
  have By := hidden hb
  clear hv hn hb
  go_wp2_with fail
  refine (same_any v4 u4 (notIn C []) _ (notIn_le hC) (Hv.out.below By.out) Hv2.out Hn.out Hn2.out).mono ?_
  rintro e z4 ⟨rfl, m4, rfl⟩
  have Bz := hidden (below_drewN By.out m4)
  have D5 := hidden (Dx.out.trans (Bz.out.mono Dx.out.size))
  have HI5 := hidden (HIx.out.below Bz.out)
  clear Hv Hn Hv2 Hn2 HIx Dx By Bz
  go_wp2_with fail
  refine (tried_any w3.heap.size 5 _ other vc3 C _ (by omega) ho HsC.out (by omega) HI5.out (Hc3.out.below D5.out)).mono ?_
  rintro e x5 ⟨v5, rfl, hv, hn, hI, hb⟩
  rw [E5.out] at hv hn
  have Hv := hidden hv
  have Hn := hidden hn
  have HIx := hidden hI
  have Dx := hidden (D5.out.trans hb)
  clear hv hn hI hb
  go_wp2_with fail
  refine (notin_any vc3 vc3 C C _ (by omega) (by omega) (Hc3.out.below Dx.out) (Hc3.out.below Dx.out)).mono ?_
  rintro e y5 ⟨u5, rfl, hv, hn, hb⟩
  have Hv2 := hidden hv
  have Hn2 := hidden hn
  have By := hidden hb
  clear hv hn hb
  go_wp2_with fail
  refine (same_any v5 u5 (notIn C C) _ (notIn_le hC) (Hv.out.below By.out) Hv2.out Hn.out Hn2.out).mono ?_
  rintro e z5 ⟨rfl, m5, rfl⟩
  have Bz := hidden (below_drewN By.out m5)
  have D6 := hidden (Dx.out.trans (Bz.out.mono Dx.out.size))
  have HI6 := hidden (HIx.out.below Bz.out)
  clear Hv Hn Hv2 Hn2 HIx Dx By Bz
  go_wp2
  go_ret
  exact ⟨rfl, B3.out.trans (D6.out.mono B3.out.size)⟩


set_option maxHeartbeats 4000000 in
theorem law2_apart (kind other : ByteArray) (va vb vc : Value) (A B C : List ByteArray) (w : World) (hk : kind.size ≤ maxLen) (ho : other.size ≤ maxLen) (hsA : ∀ s ∈ A, s.size ≤ maxLen) (hsB : ∀ s ∈ B, s.size ≤ maxLen) (hsC : ∀ s ∈ C, s.size ≤ maxLen) (ha : Has w va A) (hb : Has w vb B) (hc : Has w vc C)
    (hk1 : ¬ (1048576 : Int) < (kind.size : Int)) (ho1 : ¬ (1048576 : Int) < (other.size : Int)) (hko : ¬ (1048576 : Int) < (kind.size : Int) + (other.size : Int)) (hq : (kind.toList == other.toList) = false) :
    Calls Trym.prog 4 #[.string kind, .string other, va, vb, vc] w fun e w' => e = .returned (.bool true) ∧ Below w.heap.size w w' := by
  have hne := hidden hq
  have E1 := hidden (m1_apart kind other A hq)
  have E2 := hidden (m2_apart kind other A B hq)
  have E4 := hidden (m4 (upd (upd (upd (fun _ => []) kind A) other B) kind C) kind)
  have E5 := hidden (m5_apart kind other A B C hq)
  have HsA := hidden hsA
  have HsB := hidden hsB
  have HsC := hidden hsC
  have Ha := hidden ha
  have Hb := hidden hb
  have Hc := hidden hc
  have hnn := fun (w : World) (a : Option Addr) (n c : Nat) => run_neq_slice_nil_any (P := Trym.prog) w 22 9 a n c 0 0 Trym.underlying22
  clear hsA hsB hsC ha hb hc hne
  go_enter Trym.func4, Trym.ntmps4
  go_wp2_with fail
  refine (zz2_any _ _ _ _ _ A B C _ Ha.out Hb.out Hc.out).mono ?_
  rintro e w ⟨⟨b, rfl⟩, rfl⟩
  cases b
  · go_wp2
    go_ret
    exact ⟨rfl, Below.refl _ _⟩
  go_wp2_with fail
  refine (within_any _ _ A _ (by omega) (by omega) Ha.out).mono ?_
  rintro e w ⟨⟨t0, ok, rfl, hok⟩, rfl⟩
  cases ok
  · clear hok
    go_wp2
    go_ret
    exact ⟨rfl, Below.refl _ _⟩
  obtain ⟨ht00, ht10, hA⟩ := hok rfl
  clear hok
  go_wp2_with fail
  refine (within_any _ _ B _ ht00 ht10 Hb.out).mono ?_
  rintro e w ⟨⟨t1, ok, rfl, hok⟩, rfl⟩
  cases ok
  · clear hok
    go_wp2
    go_ret
    exact ⟨rfl, Below.refl _ _⟩
  obtain ⟨ht01, ht11, hB⟩ := hok rfl
  clear hok
  go_wp2_with fail
  refine (within_any _ _ C _ ht01 ht11 Hc.out).mono ?_
  rintro e w ⟨⟨t2, ok, rfl, hok⟩, rfl⟩
  cases ok
  · clear hok
    go_wp2
    go_ret
    exact ⟨rfl, Below.refl _ _⟩
  obtain ⟨ht02, ht12, hC⟩ := hok rfl
  clear hok
  go_wp2_with fail
  refine (clone_any _ A _ (by omega) Ha.out).mono ?_
  rintro e w1 ⟨va1, rfl, ha1, hb1⟩
  have Ha1 := hidden ha1
  have B1 := hidden hb1
  clear ha1 hb1
  go_wp2_with fail
  refine (clone_any _ B _ (by omega) (Hb.out.below B1.out)).mono ?_
  rintro e w2 ⟨vb2, rfl, hb2, hbe2⟩
  have Hb2 := hidden hb2
  have Ha2 := hidden (Ha1.out.below hbe2)
  have B2 := hidden (B1.out.trans (hbe2.mono B1.out.size))
  clear hb2 hbe2 Ha1
  go_wp2_with fail
  refine (clone_any _ C _ (by omega) (Hc.out.below B2.out)).mono ?_
  rintro e w3 ⟨vc3, rfl, hc3, hbe3⟩
  have Hc3 := hidden hc3
  have Ha3 := hidden (Ha2.out.below hbe3)
  have Hb3 := hidden (Hb2.out.below hbe3)
  have B3 := hidden (B2.out.trans (hbe3.mono B2.out.size))
  clear hc3 hbe3 Ha2 Hb2
  have HI0 := hidden (inv_fresh w3)
  have D0 := hidden ((Below.refl w3.heap.size w3).alloc (Nat.le_refl _) (.cells #[.map none] 29))
  go_wp2_with fail
  refine (tried_any w3.heap.size 0 _ kind va1 A _ (by omega) hk HsA.out (by omega) HI0.out (Ha3.out.below D0.out)).mono ?_
  rintro e x0 ⟨v0, rfl, hv, hn, hI, hb⟩
  have Hv := hidden hv
  have Hn := hidden hn
  have HIx := hidden hI
  have Dx := hidden (D0.out.trans hb)
  clear hv hn hI hb
  go_wp2_with fail
  refine (notin_any va1 (.slice none 0 0) A [] _ (by omega) (by simp) (Ha3.out.below Dx.out) (has_nil _)).mono ?_
  rintro e y0 ⟨u0, rfl, hv, hn, hb⟩
  have Hv2 := hidden hv
  have Hn2 := hidden hn
  have By := hidden hb
  clear hv hn hb
  go_wp2_with fail
  refine (same_any v0 u0 (notIn A []) _ (notIn_le hA) (Hv.out.below By.out) Hv2.out Hn.out Hn2.out).mono ?_
  rintro e z0 ⟨rfl, m0, rfl⟩
  have Bz := hidden (below_drewN By.out m0)
  have D1 := hidden (Dx.out.trans (Bz.out.mono Dx.out.size))
  have HI1 := hidden (HIx.out.below Bz.out)
  clear Hv Hn Hv2 Hn2 HIx Dx By Bz
  go_wp2_with fail
  refine (tried_any w3.heap.size 1 _ other vb2 B _ (by omega) ho HsB.out (by omega) HI1.out (Hb3.out.below D1.out)).mono ?_
  rintro e x1 ⟨v1, rfl, hv, hn, hI, hb⟩
  rw [E1.out] at hv hn
  have Hv := hidden hv
  have Hn := hidden hn
  have HIx := hidden hI
  have Dx := hidden (D1.out.trans hb)
  clear hv hn hI hb
  go_wp2_with fail
  refine (notin_any vb2 (.slice none 0 0) B [] _ (by omega) (by simp) (Hb3.out.below Dx.out) (has_nil _)).mono ?_
  rintro e y1 ⟨u1, rfl, hv, hn, hb⟩
  have Hv2 := hidden hv
  have Hn2 := hidden hn
  have By := hidden hb
  clear hv hn hb
  go_wp2_with fail
  refine (same_any v1 u1 (notIn B []) _ (notIn_le hB) (Hv.out.below By.out) Hv2.out Hn.out Hn2.out).mono ?_
  rintro e z1 ⟨rfl, m1, rfl⟩
  have Bz := hidden (below_drewN By.out m1)
  have D2 := hidden (Dx.out.trans (Bz.out.mono Dx.out.size))
  have HI2 := hidden (HIx.out.below Bz.out)
  clear Hv Hn Hv2 Hn2 HIx Dx By Bz
  go_wp2_with fail
  refine (tried_any w3.heap.size 2 _ kind vc3 C _ (by omega) hk HsC.out (by omega) HI2.out (Hc3.out.below D2.out)).mono ?_
  rintro e x2 ⟨v2, rfl, hv, hn, hI, hb⟩
  rw [E2.out] at hv hn
  have Hv := hidden hv
  have Hn := hidden hn
  have HIx := hidden hI
  have Dx := hidden (D2.out.trans hb)
  clear hv hn hI hb
  go_wp2_with fail
  refine (notin_any vc3 va1 C A _ (by omega) (by omega) (Hc3.out.below Dx.out) (Ha3.out.below Dx.out)).mono ?_
  rintro e y2 ⟨u2, rfl, hv, hn, hb⟩
  have Hv2 := hidden hv
  have Hn2 := hidden hn
  have By := hidden hb
  clear hv hn hb
  go_wp2_with fail
  refine (same_any v2 u2 (notIn C A) _ (notIn_le hC) (Hv.out.below By.out) Hv2.out Hn.out Hn2.out).mono ?_
  rintro e z2 ⟨rfl, m2, rfl⟩
  have Bz := hidden (below_drewN By.out m2)
  have D3 := hidden (Dx.out.trans (Bz.out.mono Dx.out.size))
  have HI3 := hidden (HIx.out.below Bz.out)
  clear Hv Hn Hv2 Hn2 HIx Dx By Bz
  go_wp2_with fail
  refine (tried_any w3.heap.size 3 _ kind (.slice none 0 0) [] _ (by simp) hk (fun s hs => by cases hs) (by omega) HI3.out (has_nil _)).mono ?_
  rintro e x3 ⟨v3, rfl, hv, hn, hI, hb⟩
  obtain rfl : v3 = .slice none 0 0 := hn rfl
  have HI4 := hidden hI
  have D4 := hidden (D3.out.trans hb)
  clear hv hn hI hb
  go_wp2_with fail
  refine (tried_any w3.heap.size 4 _ kind vc3 C _ (by omega) hk HsC.out (by omega) HI4.out (Hc3.out.below D4.out)).mono ?_
  rintro e x4 ⟨v4, rfl, hv, hn, hI, hb⟩
  rw [E4.out] at hv hn
  have Hv := hidden hv
  have Hn := hidden hn
  have HIx := hidden hI
  have Dx := hidden (D4.out.trans hb)
  clear hv hn hI hb
  go_wp2_with fail
  refine (notin_any vc3 (.slice none 0 0) C [] _ (by omega) (by simp) (Hc3.out.below Dx.out) (has_nil _)).mono ?_
  rintro e y4 ⟨u4, rfl, hv, hn, hb⟩
  have Hv2 := hidden hv
  have Hn2 := hidden hn
  have By := hidden hb
  clear hv hn hb
  go_wp2_with fail
  refine (same_any v4 u4 (notIn C []) _ (notIn_le hC) (Hv.out.below By.out) Hv2.out Hn.out Hn2.out).mono ?_
  rintro e z4 ⟨rfl, m4, rfl⟩
  have Bz := hidden (below_drewN By.out m4)
  have D5 := hidden (Dx.out.trans (Bz.out.mono Dx.out.size))
  have HI5 := hidden (HIx.out.below Bz.out)
  clear Hv Hn Hv2 Hn2 HIx Dx By Bz
  go_wp2_with fail
  refine (tried_any w3.heap.size 5 _ other vc3 C _ (by omega) ho HsC.out (by omega) HI5.out (Hc3.out.below D5.out)).mono ?_
  rintro e x5 ⟨v5, rfl, hv, hn, hI, hb⟩
  rw [E5.out] at hv hn
  have Hv := hidden hv
  have Hn := hidden hn
  have HIx := hidden hI
  have Dx := hidden (D5.out.trans hb)
  clear hv hn hI hb
  go_wp2_with fail
  refine (notin_any vc3 vb2 C B _ (by omega) (by omega) (Hc3.out.below Dx.out) (Hb3.out.below Dx.out)).mono ?_
  rintro e y5 ⟨u5, rfl, hv, hn, hb⟩
  have Hv2 := hidden hv
  have Hn2 := hidden hn
  have By := hidden hb
  clear hv hn hb
  go_wp2_with fail
  refine (same_any v5 u5 (notIn C B) _ (notIn_le hC) (Hv.out.below By.out) Hv2.out Hn.out Hn2.out).mono ?_
  rintro e z5 ⟨rfl, m5, rfl⟩
  have Bz := hidden (below_drewN By.out m5)
  have D6 := hidden (Dx.out.trans (Bz.out.mono Dx.out.size))
  have HI6 := hidden (HIx.out.below Bz.out)
  clear Hv Hn Hv2 Hn2 HIx Dx By Bz
  go_wp2
  go_ret
  exact ⟨rfl, B3.out.trans (D6.out.mono B3.out.size)⟩


theorem law2_short (kind other : ByteArray) (va vb vc : Value) (A B C : List ByteArray) (w : World) (ha : Has w va A) (hb : Has w vb B) (hc : Has w vc C)
    (h : (1048576 : Int) < (kind.size : Int) ∨ (¬ (1048576 : Int) < (kind.size : Int) ∧ (1048576 : Int) < (other.size : Int)) ∨ (¬ (1048576 : Int) < (kind.size : Int) ∧ ¬ (1048576 : Int) < (other.size : Int) ∧ (1048576 : Int) < (kind.size : Int) + (other.size : Int))) :
    Calls Trym.prog 4 #[.string kind, .string other, va, vb, vc] w fun e w' => e = .returned (.bool true) ∧ Below w.heap.size w w' := by
  have Ha := hidden ha
  have Hb := hidden hb
  have Hc := hidden hc
  clear ha hb hc
  rcases h with h1 | ⟨h1, h2⟩ | ⟨h1, h2, h3⟩
  all_goals
    go_enter Trym.func4, Trym.ntmps4
    go_wp2_with fail
    refine (zz2_any _ _ _ _ _ A B C _ Ha.out Hb.out Hc.out).mono ?_
    rintro e w ⟨⟨b, rfl⟩, rfl⟩
    cases b
    all_goals
      go_wp2
      go_ret
      exact ⟨rfl, Below.refl _ _⟩

theorem law2_walk (kind other : ByteArray) (va vb vc : Value) (A B C : List ByteArray) (w : World) (hk : kind.size ≤ maxLen) (ho : other.size ≤ maxLen) (hsA : ∀ s ∈ A, s.size ≤ maxLen) (hsB : ∀ s ∈ B, s.size ≤ maxLen) (hsC : ∀ s ∈ C, s.size ≤ maxLen) (ha : Has w va A) (hb : Has w vb B) (hc : Has w vc C) :
    Calls Trym.prog 4 #[.string kind, .string other, va, vb, vc] w fun e w' => e = .returned (.bool true) ∧ Below w.heap.size w w' := by
  by_cases h1 : (1048576 : Int) < (kind.size : Int)
  · exact law2_short kind other va vb vc A B C w ha hb hc (.inl h1)
  by_cases h2 : (1048576 : Int) < (other.size : Int)
  · exact law2_short kind other va vb vc A B C w ha hb hc (.inr (.inl ⟨h1, h2⟩))
  by_cases h3 : (1048576 : Int) < (kind.size : Int) + (other.size : Int)
  · exact law2_short kind other va vb vc A B C w ha hb hc (.inr (.inr ⟨h1, h2, h3⟩))
  cases hq : (kind.toList == other.toList)
  · exact law2_apart kind other va vb vc A B C w hk ho hsA hsB hsC ha hb hc h1 h2 h3 hq
  · exact law2_same kind other va vb vc A B C w hk ho hsA hsB hsC ha hb hc h1 h2 h3 hq
end Go.Proofs.Qxb6602534aMods
