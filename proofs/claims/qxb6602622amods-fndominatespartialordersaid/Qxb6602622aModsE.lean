/- Seat 622: the law FnDominatesPartialOrder at every input. -/
import Derived.Test.Qxb6602622aModsD
namespace Go.Proofs.Qxb6602622aMods
open Go.ChangeShapes Go.WideShapes Go.ChangeAt Go.RowKit
set_option linter.unusedVariables false

set_option maxRecDepth 20000 in
theorem po_long (la : Int) (ca : ByteArray) (lb : Int) (cb : ByteArray) (lc : Int) (cc : ByteArray) (w : World)
    (h : (262144 : Int) < (ca.size : Int) ∨ (¬ (262144 : Int) < (ca.size : Int) ∧ (262144 : Int) < (cb.size : Int)) ∨ (¬ (262144 : Int) < (ca.size : Int) ∧ ¬ (262144 : Int) < (cb.size : Int) ∧ (262144 : Int) < (cc.size : Int))) :
    Calls Trym.prog 5 #[.int .i64 la, .string ca, .int .i64 lb, .string cb, .int .i64 lc, .string cc] w fun e w' => e = .returned (.bool true) ∧ Below w.heap.size w w' := by
  rcases h with h1 | ⟨h1, h2⟩ | ⟨h1, h2, h3⟩
  all_goals
    go_enter Trym.func5, Trym.ntmps5
    go_wp2_with fail
    refine (zz15 _ _ _ _ _ _ _).mono ?_
    rintro e w ⟨⟨b, rfl⟩, rfl⟩
    cases b
    all_goals
      go_wp2
      go_ret
      exact ⟨rfl, Below.refl _ _⟩

set_option maxRecDepth 20000 in
theorem po_ends (la : Int) (ca : ByteArray) (lb : Int) (cb : ByteArray) (lc : Int) (cc : ByteArray) (w : World) (ga : ¬ (262144 : Int) < (ca.size : Int)) (gb : ¬ (262144 : Int) < (cb.size : Int)) (gc : ¬ (262144 : Int) < (cc.size : Int))
    (h : endsZ ca = true ∨ (endsZ ca = false ∧ endsZ cb = true) ∨ (endsZ ca = false ∧ endsZ cb = false ∧ endsZ cc = true)) :
    Calls Trym.prog 5 #[.int .i64 la, .string ca, .int .i64 lb, .string cb, .int .i64 lc, .string cc] w fun e w' => e = .returned (.bool true) ∧ Below w.heap.size w w' := by
  rcases h with h1 | ⟨h1, h2⟩ | ⟨h1, h2, h3⟩
  · have H1 := hidden h1
    clear h1
    go_enter Trym.func5, Trym.ntmps5
    go_wp2_with fail
    refine (zz15 _ _ _ _ _ _ _).mono ?_
    rintro e w ⟨⟨b, rfl⟩, rfl⟩
    cases b
    · go_wp2
      go_ret
      exact ⟨rfl, Below.refl _ _⟩
    go_wp2_with fail
    refine (ends_any ca _ (by omega)).mono ?_
    rw [H1.out]
    rintro e w ⟨rfl, rfl⟩
    go_wp2
    go_ret
    exact ⟨rfl, Below.refl _ _⟩
  · have H1 := hidden h1
    have H2 := hidden h2
    clear h1 h2
    go_enter Trym.func5, Trym.ntmps5
    go_wp2_with fail
    refine (zz15 _ _ _ _ _ _ _).mono ?_
    rintro e w ⟨⟨b, rfl⟩, rfl⟩
    cases b
    · go_wp2
      go_ret
      exact ⟨rfl, Below.refl _ _⟩
    go_wp2_with fail
    refine (ends_any ca _ (by omega)).mono ?_
    rw [H1.out]
    rintro e w ⟨rfl, rfl⟩
    go_wp2_with fail
    refine (ends_any cb _ (by omega)).mono ?_
    rw [H2.out]
    rintro e w ⟨rfl, rfl⟩
    go_wp2
    go_ret
    exact ⟨rfl, Below.refl _ _⟩
  · have H1 := hidden h1
    have H2 := hidden h2
    have H3 := hidden h3
    clear h1 h2 h3
    go_enter Trym.func5, Trym.ntmps5
    go_wp2_with fail
    refine (zz15 _ _ _ _ _ _ _).mono ?_
    rintro e w ⟨⟨b, rfl⟩, rfl⟩
    cases b
    · go_wp2
      go_ret
      exact ⟨rfl, Below.refl _ _⟩
    go_wp2_with fail
    refine (ends_any ca _ (by omega)).mono ?_
    rw [H1.out]
    rintro e w ⟨rfl, rfl⟩
    go_wp2_with fail
    refine (ends_any cb _ (by omega)).mono ?_
    rw [H2.out]
    rintro e w ⟨rfl, rfl⟩
    go_wp2_with fail
    refine (ends_any cc _ (by omega)).mono ?_
    rw [H3.out]
    rintro e w ⟨rfl, rfl⟩
    go_wp2
    go_ret
    exact ⟨rfl, Below.refl _ _⟩

theorem po_walk (la : Int) (ca : ByteArray) (lb : Int) (cb : ByteArray) (lc : Int) (cc : ByteArray) (w : World) :
    Calls Trym.prog 5 #[.int .i64 la, .string ca, .int .i64 lb, .string cb, .int .i64 lc, .string cc] w fun e w' => e = .returned (.bool true) ∧ Below w.heap.size w w' := by
  by_cases g1 : (262144 : Int) < (ca.size : Int)
  · exact po_long la ca lb cb lc cc w (.inl g1)
  by_cases g2 : (262144 : Int) < (cb.size : Int)
  · exact po_long la ca lb cb lc cc w (.inr (.inl ⟨g1, g2⟩))
  by_cases g3 : (262144 : Int) < (cc.size : Int)
  · exact po_long la ca lb cb lc cc w (.inr (.inr ⟨g1, g2, g3⟩))
  cases ea : endsZ ca
  case true => exact po_ends la ca lb cb lc cc w g1 g2 g3 (.inl ea)
  cases eb : endsZ cb
  case true => exact po_ends la ca lb cb lc cc w g1 g2 g3 (.inr (.inl ⟨ea, eb⟩))
  cases ec : endsZ cc
  case true => exact po_ends la ca lb cb lc cc w g1 g2 g3 (.inr (.inr ⟨ea, eb, ec⟩))
  cases hab : domS la ca lb cb
  · exact po_i la ca lb cb lc cc w (by omega) (by omega) (by omega) ea eb ec hab
  cases hba : domS lb cb la ca
  · cases hbc : domS lb cb lc cc
    · exact po_ii la ca lb cb lc cc w (by omega) (by omega) (by omega) ea eb ec hab hba hbc
    · exact po_iii la ca lb cb lc cc w (by omega) (by omega) (by omega) ea eb ec hab hba hbc (domS_trans hab hbc)
  · obtain ⟨rfl, rfl⟩ := domS_antisymm hab hba
    cases hbc : domS la ca lc cc
    · exact po_iv la ca lc cc w (by omega) (by omega) ea ec hbc
    · exact po_v la ca lc cc w (by omega) (by omega) ea ec hbc
end Go.Proofs.Qxb6602622aMods
