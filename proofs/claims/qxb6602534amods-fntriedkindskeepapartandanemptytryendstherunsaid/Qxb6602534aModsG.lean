/- Seat 534: the walk of the law FnTriedAnswersLinesThePreviousTryDidNotMeet. -/
import Derived.Test.Qxb6602534aModsF
namespace Go.Proofs.Qxb6602534aMods
open Go.ChangeShapes Go.WideShapes Go.ChangeAt Go.RowKit Go.Maps
set_option linter.unusedVariables false

/-- A fresh Recurring. -/
theorem inv_fresh (w : World) : Inv (w.alloc (.cells #[.map none] 29)) w.heap.size 0 (fun _ => []) :=
  .inl ⟨World.cell?_alloc_at _ _ _ _ rfl, World.frozen?_alloc_at _ _ _ _ rfl, fun _ => rfl⟩
theorem has_nil (w : World) : Has w (.slice none 0 0) [] := ⟨none, 0, rfl, .inl rfl⟩
theorem upd_same (M : List UInt8 → List ByteArray) (kind : ByteArray) (L : List ByteArray) : upd M kind L kind.data.toList = L := by simp [upd]
theorem notIn_le {A L : List ByteArray} (h : A.length ≤ 4096) : (notIn A L).length ≤ 1048576 := Nat.le_trans (notIn_len A L) (by omega)

set_option maxHeartbeats 2000000 in
theorem law1_walk (kind : ByteArray) (va vb : Value) (A B : List ByteArray) (w : World) (hk : kind.size ≤ maxLen) (hsA : ∀ s ∈ A, s.size ≤ maxLen) (hsB : ∀ s ∈ B, s.size ≤ maxLen) (ha : Has w va A) (hb : Has w vb B) :
    Calls Trym.prog 3 #[.string kind, va, vb] w fun e w' => e = .returned (.bool true) ∧ Below w.heap.size w w' := by
  have HsA := hidden hsA
  have HsB := hidden hsB
  have Ha := hidden ha
  have Hb := hidden hb
  clear hsA hsB ha hb
  by_cases hk1 : (1048576 : Int) < (kind.size : Int)
  · go_enter Trym.func3, Trym.ntmps3
    go_wp2_with fail
    refine (zz1_any _ _ _ A B _ Ha.out Hb.out).mono ?_
    rintro e w ⟨⟨b, rfl⟩, rfl⟩
    cases b
    all_goals
      go_wp2
      go_ret
      exact ⟨rfl, Below.refl _ _⟩
  · go_enter Trym.func3, Trym.ntmps3
    go_wp2_with fail
    refine (zz1_any _ _ _ A B _ Ha.out Hb.out).mono ?_
    rintro e w ⟨⟨b, rfl⟩, rfl⟩
    cases b
    · go_wp2
      go_ret
      exact ⟨rfl, Below.refl _ _⟩
    go_wp2_with fail
    refine (within_any _ _ A _ (by omega) (by omega) Ha.out).mono ?_
    rintro e w ⟨⟨t, ok, rfl, hok⟩, rfl⟩
    cases ok
    · clear hok
      go_wp2
      go_ret
      exact ⟨rfl, Below.refl _ _⟩
    obtain ⟨ht0, ht1, hA⟩ := hok rfl
    clear hok
    go_wp2_with fail
    refine (within_any _ _ B _ ht0 ht1 Hb.out).mono ?_
    rintro e w ⟨⟨t2, ok, rfl, hok⟩, rfl⟩
    cases ok
    · clear hok
      go_wp2
      go_ret
      exact ⟨rfl, Below.refl _ _⟩
    obtain ⟨_, _, hB⟩ := hok rfl
    clear hok
    go_wp2_with fail
    refine (clone_any _ A _ (by omega) Ha.out).mono ?_
    rintro e w1 ⟨va1, rfl, ha1, hb1⟩
    have Ha1 := hidden ha1
    have B1 := hidden hb1
    clear ha1 hb1
    go_wp2_with fail
    refine (clone_any _ B _ (by omega) (Hb.out.below B1.out)).mono ?_
    rintro e w2 ⟨vb2, rfl, hb2, hbe2⟩
    have Hb2 := hidden hb2
    have Ha2 := hidden (Ha1.out.below hbe2)
    have B2 := hidden hbe2
    clear hb2 hbe2 Ha1
    go_wp2_with fail
    refine (tried_any w2.heap.size 0 (fun _ => []) kind va1 A _ (by omega) hk HsA.out (by omega) (inv_fresh w2) (Ha2.out.below ((Below.refl _ _).alloc (Nat.le_refl _) _))).mono ?_
    rintro e w4 ⟨v1, rfl, hv1, hn1, hI4, hb4⟩
    have Hv1 := hidden hv1
    have Hn1 := hidden hn1
    have HI4 := hidden hI4
    have B4 := hidden (((Below.refl w2.heap.size w2).alloc (Nat.le_refl _) (.cells #[.map none] 29)).trans hb4)
    clear hv1 hn1 hI4 hb4
    go_wp2_with fail
    refine (notin_any va1 (.slice none 0 0) A [] _ (by omega) (by simp) (Ha2.out.below B4.out) (has_nil _)).mono ?_
    rintro e w5 ⟨v2, rfl, hv2, hn2, hb5⟩
    have Hv2 := hidden hv2
    have Hn2 := hidden hn2
    have B5 := hidden hb5
    clear hv2 hn2 hb5
    go_wp2_with fail
    refine (same_any v1 v2 (notIn A []) _ (notIn_le hA) (Hv1.out.below B5.out) Hv2.out Hn1.out Hn2.out).mono ?_
    rintro e w6 ⟨rfl, n6, rfl⟩
    have B56 := hidden (below_drewN B5.out n6)
    have B6 := hidden (B4.out.trans (B56.out.mono B4.out.size))
    have HI6 := hidden (HI4.out.below B56.out)
    clear Hv1 Hn1 Hv2 Hn2 HI4 B5
    go_wp2_with fail
    refine (tried_any w2.heap.size 1 _ kind vb2 B _ (by omega) hk HsB.out (by omega) HI6.out (Hb2.out.below B6.out)).mono ?_
    rintro e w7 ⟨v3, rfl, hv3, hn3, hI7, hb7⟩
    rw [upd_same] at hv3 hn3
    have Hv3 := hidden hv3
    have Hn3 := hidden hn3
    have B7 := hidden (B6.out.trans hb7)
    clear hv3 hn3 hI7 hb7
    go_wp2_with fail
    refine (notin_any vb2 va1 B A _ (by omega) (by omega) (Hb2.out.below B7.out) (Ha2.out.below B7.out)).mono ?_
    rintro e w8 ⟨v4, rfl, hv4, hn4, hb8⟩
    have Hv4 := hidden hv4
    have Hn4 := hidden hn4
    have B8 := hidden hb8
    clear hv4 hn4 hb8
    go_wp2_with fail
    refine (same_any v3 v4 (notIn B A) _ (notIn_le hB) (Hv3.out.below B8.out) Hv4.out Hn3.out Hn4.out).mono ?_
    rintro e w9 ⟨rfl, n9, rfl⟩
    go_wp2
    go_ret
    refine ⟨rfl, below_drewN ?_ n9⟩
    have h27 := B7.out.trans (B8.out.mono B7.out.size)
    exact (B1.out.trans (B2.out.mono B1.out.size)).trans (h27.mono (Nat.le_trans B1.out.size B2.out.size))
end Go.Proofs.Qxb6602534aMods
