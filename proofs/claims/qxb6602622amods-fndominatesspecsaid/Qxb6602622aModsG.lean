/- Seat 622: the walk of the law FnDominatesSpec. -/
import Derived.Test.Qxb6602622aModsF
namespace Go.Proofs.Qxb6602622aMods
open Go.ChangeShapes Go.WideShapes Go.ChangeAt Go.RowKit
set_option linter.unusedVariables false

/-- The law's two lattices and its two labels, in memory. -/
def lobj (p : Option Addr) (l : Int) (c : ByteArray) : Obj := .cells #[.pointer p, .int .i64 l, .string c] 28
theorem lat_first (w : World) (o1 o2 o3 o4 : Obj) : ((((((w.alloc latB).alloc latB).alloc o1).alloc o2).alloc o3).alloc o4).heap[w.heap.size]? = some latB := by
  have h0 : (w.alloc latB).heap[w.heap.size]? = some latB := heap_alloc_new w _
  rw [Below.heap_alloc _ _ _ (by simp <;> omega), Below.heap_alloc _ _ _ (by simp <;> omega), Below.heap_alloc _ _ _ (by simp <;> omega), Below.heap_alloc _ _ _ (by simp <;> omega), Below.heap_alloc _ _ _ (by simp <;> omega)]
  exact h0
theorem lat_second (w : World) (o1 o2 o3 o4 : Obj) : ((((((w.alloc latB).alloc latB).alloc o1).alloc o2).alloc o3).alloc o4).heap[w.heap.size + 1]? = some latB := by
  have h0 : ((w.alloc latB).alloc latB).heap[(w.alloc latB).heap.size]? = some latB := heap_alloc_new _ _
  have hz : (w.alloc latB).heap.size = w.heap.size + 1 := by simp
  rw [hz] at h0
  rw [Below.heap_alloc _ _ _ (by simp <;> omega), Below.heap_alloc _ _ _ (by simp <;> omega), Below.heap_alloc _ _ _ (by simp <;> omega), Below.heap_alloc _ _ _ (by simp <;> omega)]
  exact h0
theorem six_new (w : World) (o1 o2 o3 o4 o5 o6 : Obj) : Below w.heap.size w ((((((w.alloc o1).alloc o2).alloc o3).alloc o4).alloc o5).alloc o6) :=
  ((((((Below.refl _ _).alloc (Nat.le_refl _) _).alloc (by simp) _).alloc (by simp <;> omega) _).alloc (by simp <;> omega) _).alloc (by simp <;> omega) _).alloc (by simp <;> omega) _

set_option maxRecDepth 20000 in
theorem sp_long (a0 a1 : Bool) (la : Int) (ca : ByteArray) (a4 a5 : Bool) (lb : Int) (cb : ByteArray) (w : World)
    (h : (524288 : Int) < (ca.size : Int) ∨ (¬ (524288 : Int) < (ca.size : Int) ∧ (524288 : Int) < (cb.size : Int))) :
    Calls Trym.prog 4 #[.bool a0, .bool a1, .int .i64 la, .string ca, .bool a4, .bool a5, .int .i64 lb, .string cb] w fun e w' => e = .returned (.bool true) ∧ Below w.heap.size w w' := by
  rcases h with h1 | ⟨h1, h2⟩
  all_goals
    go_enter Trym.func4, Trym.ntmps4
    go_wp2_with fail
    refine (zz9 _ _ _ _ _ _ _ _ _).mono ?_
    rintro e w ⟨⟨b, rfl⟩, rfl⟩
    cases b
    all_goals
      go_wp2
      go_ret
      exact ⟨rfl, Below.refl _ _⟩

set_option maxRecDepth 20000 in
theorem sp_ends (a0 a1 : Bool) (la : Int) (ca : ByteArray) (a4 a5 : Bool) (lb : Int) (cb : ByteArray) (w : World) (ga : ¬ (524288 : Int) < (ca.size : Int)) (gb : ¬ (524288 : Int) < (cb.size : Int))
    (h : endsZ ca = true ∨ (endsZ ca = false ∧ endsZ cb = true)) :
    Calls Trym.prog 4 #[.bool a0, .bool a1, .int .i64 la, .string ca, .bool a4, .bool a5, .int .i64 lb, .string cb] w fun e w' => e = .returned (.bool true) ∧ Below w.heap.size w w' := by
  rcases h with h1 | ⟨h1, h2⟩
  · have H1 := hidden h1
    clear h1
    go_enter Trym.func4, Trym.ntmps4
    go_wp2_with fail
    refine (zz9 _ _ _ _ _ _ _ _ _).mono ?_
    rintro e w ⟨⟨b, rfl⟩, rfl⟩
    cases b
    · go_wp2
      go_ret
      exact ⟨rfl, Below.refl _ _⟩
    go_wp2_with fail
    refine (ends_any ca _ (by omega)).mono ?_
    rw [H1.out]
    rintro e w ⟨rfl, rfl⟩
    go_wp2
    go_ret
    exact ⟨rfl, Below.refl _ _⟩
  · have H1 := hidden h1
    have H2 := hidden h2
    clear h1 h2
    go_enter Trym.func4, Trym.ntmps4
    go_wp2_with fail
    refine (zz9 _ _ _ _ _ _ _ _ _).mono ?_
    rintro e w ⟨⟨b, rfl⟩, rfl⟩
    cases b
    · go_wp2
      go_ret
      exact ⟨rfl, Below.refl _ _⟩
    go_wp2_with fail
    refine (ends_any ca _ (by omega)).mono ?_
    rw [H1.out]
    rintro e w ⟨rfl, rfl⟩
    go_wp2_with fail
    refine (ends_any cb _ (by omega)).mono ?_
    rw [H2.out]
    rintro e w ⟨rfl, rfl⟩
    go_wp2
    go_ret
    exact ⟨rfl, Below.refl _ _⟩

set_option maxHeartbeats 4000000 in
set_option maxRecDepth 20000 in
theorem sp_nil (a1 a4 a5 : Bool) (la : Int) (ca : ByteArray) (lb : Int) (cb : ByteArray) (w : World) (ga : ¬ (524288 : Int) < (ca.size : Int)) (gb : ¬ (524288 : Int) < (cb.size : Int)) (ea : endsZ ca = false) (eb : endsZ cb = false) :
    Calls Trym.prog 4 #[.bool true, .bool a1, .int .i64 la, .string ca, .bool a4, .bool a5, .int .i64 lb, .string cb] w fun e w' => e = .returned (.bool true) ∧ Below w.heap.size w w' := by
  have EA := hidden ea
  have EB := hidden eb
  clear ea eb
  cases a1 <;> cases a4 <;> cases a5
  all_goals
    go_enter Trym.func4, Trym.ntmps4
    go_wp2_with fail
    refine (zz9 _ _ _ _ _ _ _ _ _).mono ?_
    rintro e w ⟨⟨b, rfl⟩, rfl⟩
    cases b
    · go_wp2
      go_ret
      exact ⟨rfl, Below.refl _ _⟩
    go_wp2_with fail
    refine (ends_any ca _ (by omega)).mono ?_
    rw [EA.out]
    rintro e w ⟨rfl, rfl⟩
    go_wp2_with fail
    refine (ends_any cb _ (by omega)).mono ?_
    rw [EB.out]
    rintro e w ⟨rfl, rfl⟩
    go_wp2_with fail
    refine (lattice_any _).mono ?_
    rintro e w1 ⟨rfl, rfl⟩
    go_wp2_with fail
    refine (lattice_any _).mono ?_
    rintro e w1 ⟨rfl, rfl⟩
    go_wp2_with fail
    refine (label_any _ la ca _).mono ?_
    rintro e w1 ⟨rfl, rfl⟩
    go_wp2_with fail
    refine (label_any _ lb cb _).mono ?_
    rintro e w1 ⟨rfl, rfl⟩
    go_wp2_with fail
    refine (dom_nil _ _ _ _ _ _).mono ?_
    rintro e x1 ⟨rfl, hb⟩
    have HB := hidden ((six_new w _ _ _ _ _ _).trans (hb.mono (six_new w _ _ _ _ _ _).size))
    clear hb
    go_wp2
    go_ret
    exact ⟨rfl, HB.out⟩

set_option maxHeartbeats 4000000 in
set_option maxRecDepth 20000 in
theorem sp_none (a1 a5 : Bool) (la : Int) (ca : ByteArray) (lb : Int) (cb : ByteArray) (w : World) (ga : ¬ (524288 : Int) < (ca.size : Int)) (gb : ¬ (524288 : Int) < (cb.size : Int)) (ea : endsZ ca = false) (eb : endsZ cb = false) :
    Calls Trym.prog 4 #[.bool false, .bool a1, .int .i64 la, .string ca, .bool true, .bool a5, .int .i64 lb, .string cb] w fun e w' => e = .returned (.bool true) ∧ Below w.heap.size w w' := by
  have EA := hidden ea
  have EB := hidden eb
  clear ea eb
  cases a1 <;> cases a5
  all_goals
    go_enter Trym.func4, Trym.ntmps4
    go_wp2_with fail
    refine (zz9 _ _ _ _ _ _ _ _ _).mono ?_
    rintro e w ⟨⟨b, rfl⟩, rfl⟩
    cases b
    · go_wp2
      go_ret
      exact ⟨rfl, Below.refl _ _⟩
    go_wp2_with fail
    refine (ends_any ca _ (by omega)).mono ?_
    rw [EA.out]
    rintro e w ⟨rfl, rfl⟩
    go_wp2_with fail
    refine (ends_any cb _ (by omega)).mono ?_
    rw [EB.out]
    rintro e w ⟨rfl, rfl⟩
    go_wp2_with fail
    refine (lattice_any _).mono ?_
    rintro e w1 ⟨rfl, rfl⟩
    go_wp2_with fail
    refine (lattice_any _).mono ?_
    rintro e w1 ⟨rfl, rfl⟩
    go_wp2_with fail
    refine (label_any _ la ca _).mono ?_
    rintro e w1 ⟨rfl, rfl⟩
    go_wp2_with fail
    refine (label_any _ lb cb _).mono ?_
    rintro e w1 ⟨rfl, rfl⟩
    go_wp2_with fail
    refine (dom_none _ _ _ _ _ _).mono ?_
    rintro e x1 ⟨rfl, hb⟩
    have HB := hidden ((six_new w _ _ _ _ _ _).trans (hb.mono (six_new w _ _ _ _ _ _).size))
    clear hb
    go_wp2
    go_ret
    exact ⟨rfl, HB.out⟩

set_option maxHeartbeats 4000000 in
set_option maxRecDepth 20000 in
theorem sp_ft (la : Int) (ca : ByteArray) (lb : Int) (cb : ByteArray) (w : World) (ga : ¬ (524288 : Int) < (ca.size : Int)) (gb : ¬ (524288 : Int) < (cb.size : Int)) (ea : endsZ ca = false) (eb : endsZ cb = false) :
    Calls Trym.prog 4 #[.bool false, .bool false, .int .i64 la, .string ca, .bool false, .bool true, .int .i64 lb, .string cb] w fun e w' => e = .returned (.bool true) ∧ Below w.heap.size w w' := by
  have EA := hidden ea
  have EB := hidden eb
  clear ea eb
  go_enter Trym.func4, Trym.ntmps4
  go_wp2_with fail
  refine (zz9 _ _ _ _ _ _ _ _ _).mono ?_
  rintro e w ⟨⟨b, rfl⟩, rfl⟩
  cases b
  · go_wp2
    go_ret
    exact ⟨rfl, Below.refl _ _⟩
  go_wp2_with fail
  refine (ends_any ca _ (by omega)).mono ?_
  rw [EA.out]
  rintro e w ⟨rfl, rfl⟩
  go_wp2_with fail
  refine (ends_any cb _ (by omega)).mono ?_
  rw [EB.out]
  rintro e w ⟨rfl, rfl⟩
  go_wp2_with fail
  refine (lattice_any _).mono ?_
  rintro e w1 ⟨rfl, rfl⟩
  go_wp2_with fail
  refine (lattice_any _).mono ?_
  rintro e w1 ⟨rfl, rfl⟩
  go_wp2_with fail
  refine (label_any _ la ca _).mono ?_
  rintro e w1 ⟨rfl, rfl⟩
  go_wp2_with fail
  refine (label_any _ lb cb _).mono ?_
  rintro e w1 ⟨rfl, rfl⟩
  go_wp2_with fail
  refine (dom_other w.heap.size (w.heap.size + 1) _ _ (by omega) _ _ _ _ _ (lat_first w _ _ _ _) (lat_second w _ _ _ _)).mono ?_
  rintro e x1 ⟨rfl, hb⟩
  have HB := hidden ((six_new w _ _ _ _ _ _).trans (hb.mono (six_new w _ _ _ _ _ _).size))
  clear hb
  go_wp2
  go_ret
  exact ⟨rfl, HB.out⟩

set_option maxHeartbeats 4000000 in
set_option maxRecDepth 20000 in
theorem sp_tf (la : Int) (ca : ByteArray) (lb : Int) (cb : ByteArray) (w : World) (ga : ¬ (524288 : Int) < (ca.size : Int)) (gb : ¬ (524288 : Int) < (cb.size : Int)) (ea : endsZ ca = false) (eb : endsZ cb = false) :
    Calls Trym.prog 4 #[.bool false, .bool true, .int .i64 la, .string ca, .bool false, .bool false, .int .i64 lb, .string cb] w fun e w' => e = .returned (.bool true) ∧ Below w.heap.size w w' := by
  have EA := hidden ea
  have EB := hidden eb
  clear ea eb
  go_enter Trym.func4, Trym.ntmps4
  go_wp2_with fail
  refine (zz9 _ _ _ _ _ _ _ _ _).mono ?_
  rintro e w ⟨⟨b, rfl⟩, rfl⟩
  cases b
  · go_wp2
    go_ret
    exact ⟨rfl, Below.refl _ _⟩
  go_wp2_with fail
  refine (ends_any ca _ (by omega)).mono ?_
  rw [EA.out]
  rintro e w ⟨rfl, rfl⟩
  go_wp2_with fail
  refine (ends_any cb _ (by omega)).mono ?_
  rw [EB.out]
  rintro e w ⟨rfl, rfl⟩
  go_wp2_with fail
  refine (lattice_any _).mono ?_
  rintro e w1 ⟨rfl, rfl⟩
  go_wp2_with fail
  refine (lattice_any _).mono ?_
  rintro e w1 ⟨rfl, rfl⟩
  go_wp2_with fail
  refine (label_any _ la ca _).mono ?_
  rintro e w1 ⟨rfl, rfl⟩
  go_wp2_with fail
  refine (label_any _ lb cb _).mono ?_
  rintro e w1 ⟨rfl, rfl⟩
  go_wp2_with fail
  refine (dom_other (w.heap.size + 1) w.heap.size _ _ (by omega) _ _ _ _ _ (lat_second w _ _ _ _) (lat_first w _ _ _ _)).mono ?_
  rintro e x1 ⟨rfl, hb⟩
  have HB := hidden ((six_new w _ _ _ _ _ _).trans (hb.mono (six_new w _ _ _ _ _ _).size))
  clear hb
  go_wp2
  go_ret
  exact ⟨rfl, HB.out⟩

set_option maxHeartbeats 4000000 in
set_option maxRecDepth 20000 in
theorem sp_ff_low (la : Int) (ca : ByteArray) (lb : Int) (cb : ByteArray) (w : World) (ga : ¬ (524288 : Int) < (ca.size : Int)) (gb : ¬ (524288 : Int) < (cb.size : Int)) (ea : endsZ ca = false) (eb : endsZ cb = false) (hlv : la < lb) (hd : domS la ca lb cb = false) :
    Calls Trym.prog 4 #[.bool false, .bool false, .int .i64 la, .string ca, .bool false, .bool false, .int .i64 lb, .string cb] w fun e w' => e = .returned (.bool true) ∧ Below w.heap.size w w' := by
  have EA := hidden ea
  have EB := hidden eb
  clear ea eb
  have Hhd := hidden hd
  clear hd
  go_enter Trym.func4, Trym.ntmps4
  go_wp2_with fail
  refine (zz9 _ _ _ _ _ _ _ _ _).mono ?_
  rintro e w ⟨⟨b, rfl⟩, rfl⟩
  cases b
  · go_wp2
    go_ret
    exact ⟨rfl, Below.refl _ _⟩
  go_wp2_with fail
  refine (ends_any ca _ (by omega)).mono ?_
  rw [EA.out]
  rintro e w ⟨rfl, rfl⟩
  go_wp2_with fail
  refine (ends_any cb _ (by omega)).mono ?_
  rw [EB.out]
  rintro e w ⟨rfl, rfl⟩
  go_wp2_with fail
  refine (lattice_any _).mono ?_
  rintro e w1 ⟨rfl, rfl⟩
  go_wp2_with fail
  refine (lattice_any _).mono ?_
  rintro e w1 ⟨rfl, rfl⟩
  go_wp2_with fail
  refine (label_any _ la ca _).mono ?_
  rintro e w1 ⟨rfl, rfl⟩
  go_wp2_with fail
  refine (label_any _ lb cb _).mono ?_
  rintro e w1 ⟨rfl, rfl⟩
  go_wp2_with fail
  refine (dom_same ⟨w.heap.size, 0, none⟩ la ca lb cb _ (by omega)).mono ?_
  rw [Hhd.out]
  rintro e x1 ⟨rfl, hb⟩
  have HB := hidden ((six_new w _ _ _ _ _ _).trans (hb.mono (six_new w _ _ _ _ _ _).size))
  clear hb
  go_wp2
  go_ret
  exact ⟨rfl, HB.out⟩

set_option maxHeartbeats 4000000 in
set_option maxRecDepth 20000 in
theorem sp_ff_yes (la : Int) (ca : ByteArray) (lb : Int) (cb : ByteArray) (w : World) (ga : ¬ (524288 : Int) < (ca.size : Int)) (gb : ¬ (524288 : Int) < (cb.size : Int)) (ea : endsZ ca = false) (eb : endsZ cb = false) (hlv : lb ≤ la) (hd : domS la ca lb cb = true) (hs : subB cb ca = true) :
    Calls Trym.prog 4 #[.bool false, .bool false, .int .i64 la, .string ca, .bool false, .bool false, .int .i64 lb, .string cb] w fun e w' => e = .returned (.bool true) ∧ Below w.heap.size w w' := by
  have EA := hidden ea
  have EB := hidden eb
  clear ea eb
  have Hhd := hidden hd
  clear hd
  have Hhs := hidden hs
  clear hs
  go_enter Trym.func4, Trym.ntmps4
  go_wp2_with fail
  refine (zz9 _ _ _ _ _ _ _ _ _).mono ?_
  rintro e w ⟨⟨b, rfl⟩, rfl⟩
  cases b
  · go_wp2
    go_ret
    exact ⟨rfl, Below.refl _ _⟩
  go_wp2_with fail
  refine (ends_any ca _ (by omega)).mono ?_
  rw [EA.out]
  rintro e w ⟨rfl, rfl⟩
  go_wp2_with fail
  refine (ends_any cb _ (by omega)).mono ?_
  rw [EB.out]
  rintro e w ⟨rfl, rfl⟩
  go_wp2_with fail
  refine (lattice_any _).mono ?_
  rintro e w1 ⟨rfl, rfl⟩
  go_wp2_with fail
  refine (lattice_any _).mono ?_
  rintro e w1 ⟨rfl, rfl⟩
  go_wp2_with fail
  refine (label_any _ la ca _).mono ?_
  rintro e w1 ⟨rfl, rfl⟩
  go_wp2_with fail
  refine (label_any _ lb cb _).mono ?_
  rintro e w1 ⟨rfl, rfl⟩
  go_wp2_with fail
  refine (dom_same ⟨w.heap.size, 0, none⟩ la ca lb cb _ (by omega)).mono ?_
  rw [Hhd.out]
  rintro e x1 ⟨rfl, hb⟩
  have HB := hidden ((six_new w _ _ _ _ _ _).trans (hb.mono (six_new w _ _ _ _ _ _).size))
  clear hb
  go_wp2_with fail
  refine (subset_any cb ca _ (by omega)).mono ?_
  rw [Hhs.out]
  rintro e x1 ⟨rfl, rfl⟩
  go_wp2
  go_ret
  exact ⟨rfl, HB.out⟩

set_option maxHeartbeats 4000000 in
set_option maxRecDepth 20000 in
theorem sp_ff_no (la : Int) (ca : ByteArray) (lb : Int) (cb : ByteArray) (w : World) (ga : ¬ (524288 : Int) < (ca.size : Int)) (gb : ¬ (524288 : Int) < (cb.size : Int)) (ea : endsZ ca = false) (eb : endsZ cb = false) (hlv : lb ≤ la) (hd : domS la ca lb cb = false) (hs : subB cb ca = false) :
    Calls Trym.prog 4 #[.bool false, .bool false, .int .i64 la, .string ca, .bool false, .bool false, .int .i64 lb, .string cb] w fun e w' => e = .returned (.bool true) ∧ Below w.heap.size w w' := by
  have EA := hidden ea
  have EB := hidden eb
  clear ea eb
  have Hhd := hidden hd
  clear hd
  have Hhs := hidden hs
  clear hs
  go_enter Trym.func4, Trym.ntmps4
  go_wp2_with fail
  refine (zz9 _ _ _ _ _ _ _ _ _).mono ?_
  rintro e w ⟨⟨b, rfl⟩, rfl⟩
  cases b
  · go_wp2
    go_ret
    exact ⟨rfl, Below.refl _ _⟩
  go_wp2_with fail
  refine (ends_any ca _ (by omega)).mono ?_
  rw [EA.out]
  rintro e w ⟨rfl, rfl⟩
  go_wp2_with fail
  refine (ends_any cb _ (by omega)).mono ?_
  rw [EB.out]
  rintro e w ⟨rfl, rfl⟩
  go_wp2_with fail
  refine (lattice_any _).mono ?_
  rintro e w1 ⟨rfl, rfl⟩
  go_wp2_with fail
  refine (lattice_any _).mono ?_
  rintro e w1 ⟨rfl, rfl⟩
  go_wp2_with fail
  refine (label_any _ la ca _).mono ?_
  rintro e w1 ⟨rfl, rfl⟩
  go_wp2_with fail
  refine (label_any _ lb cb _).mono ?_
  rintro e w1 ⟨rfl, rfl⟩
  go_wp2_with fail
  refine (dom_same ⟨w.heap.size, 0, none⟩ la ca lb cb _ (by omega)).mono ?_
  rw [Hhd.out]
  rintro e x1 ⟨rfl, hb⟩
  have HB := hidden ((six_new w _ _ _ _ _ _).trans (hb.mono (six_new w _ _ _ _ _ _).size))
  clear hb
  go_wp2_with fail
  refine (subset_any cb ca _ (by omega)).mono ?_
  rw [Hhs.out]
  rintro e x1 ⟨rfl, rfl⟩
  go_wp2
  go_ret
  exact ⟨rfl, HB.out⟩

set_option maxHeartbeats 4000000 in
set_option maxRecDepth 20000 in
theorem sp_tt_low (la : Int) (ca : ByteArray) (lb : Int) (cb : ByteArray) (w : World) (ga : ¬ (524288 : Int) < (ca.size : Int)) (gb : ¬ (524288 : Int) < (cb.size : Int)) (ea : endsZ ca = false) (eb : endsZ cb = false) (hlv : la < lb) (hd : domS la ca lb cb = false) :
    Calls Trym.prog 4 #[.bool false, .bool true, .int .i64 la, .string ca, .bool false, .bool true, .int .i64 lb, .string cb] w fun e w' => e = .returned (.bool true) ∧ Below w.heap.size w w' := by
  have EA := hidden ea
  have EB := hidden eb
  clear ea eb
  have Hhd := hidden hd
  clear hd
  go_enter Trym.func4, Trym.ntmps4
  go_wp2_with fail
  refine (zz9 _ _ _ _ _ _ _ _ _).mono ?_
  rintro e w ⟨⟨b, rfl⟩, rfl⟩
  cases b
  · go_wp2
    go_ret
    exact ⟨rfl, Below.refl _ _⟩
  go_wp2_with fail
  refine (ends_any ca _ (by omega)).mono ?_
  rw [EA.out]
  rintro e w ⟨rfl, rfl⟩
  go_wp2_with fail
  refine (ends_any cb _ (by omega)).mono ?_
  rw [EB.out]
  rintro e w ⟨rfl, rfl⟩
  go_wp2_with fail
  refine (lattice_any _).mono ?_
  rintro e w1 ⟨rfl, rfl⟩
  go_wp2_with fail
  refine (lattice_any _).mono ?_
  rintro e w1 ⟨rfl, rfl⟩
  go_wp2_with fail
  refine (label_any _ la ca _).mono ?_
  rintro e w1 ⟨rfl, rfl⟩
  go_wp2_with fail
  refine (label_any _ lb cb _).mono ?_
  rintro e w1 ⟨rfl, rfl⟩
  go_wp2_with fail
  refine (dom_same ⟨w.heap.size + 1, 0, none⟩ la ca lb cb _ (by omega)).mono ?_
  rw [Hhd.out]
  rintro e x1 ⟨rfl, hb⟩
  have HB := hidden ((six_new w _ _ _ _ _ _).trans (hb.mono (six_new w _ _ _ _ _ _).size))
  clear hb
  go_wp2
  go_ret
  exact ⟨rfl, HB.out⟩

set_option maxHeartbeats 4000000 in
set_option maxRecDepth 20000 in
theorem sp_tt_yes (la : Int) (ca : ByteArray) (lb : Int) (cb : ByteArray) (w : World) (ga : ¬ (524288 : Int) < (ca.size : Int)) (gb : ¬ (524288 : Int) < (cb.size : Int)) (ea : endsZ ca = false) (eb : endsZ cb = false) (hlv : lb ≤ la) (hd : domS la ca lb cb = true) (hs : subB cb ca = true) :
    Calls Trym.prog 4 #[.bool false, .bool true, .int .i64 la, .string ca, .bool false, .bool true, .int .i64 lb, .string cb] w fun e w' => e = .returned (.bool true) ∧ Below w.heap.size w w' := by
  have EA := hidden ea
  have EB := hidden eb
  clear ea eb
  have Hhd := hidden hd
  clear hd
  have Hhs := hidden hs
  clear hs
  go_enter Trym.func4, Trym.ntmps4
  go_wp2_with fail
  refine (zz9 _ _ _ _ _ _ _ _ _).mono ?_
  rintro e w ⟨⟨b, rfl⟩, rfl⟩
  cases b
  · go_wp2
    go_ret
    exact ⟨rfl, Below.refl _ _⟩
  go_wp2_with fail
  refine (ends_any ca _ (by omega)).mono ?_
  rw [EA.out]
  rintro e w ⟨rfl, rfl⟩
  go_wp2_with fail
  refine (ends_any cb _ (by omega)).mono ?_
  rw [EB.out]
  rintro e w ⟨rfl, rfl⟩
  go_wp2_with fail
  refine (lattice_any _).mono ?_
  rintro e w1 ⟨rfl, rfl⟩
  go_wp2_with fail
  refine (lattice_any _).mono ?_
  rintro e w1 ⟨rfl, rfl⟩
  go_wp2_with fail
  refine (label_any _ la ca _).mono ?_
  rintro e w1 ⟨rfl, rfl⟩
  go_wp2_with fail
  refine (label_any _ lb cb _).mono ?_
  rintro e w1 ⟨rfl, rfl⟩
  go_wp2_with fail
  refine (dom_same ⟨w.heap.size + 1, 0, none⟩ la ca lb cb _ (by omega)).mono ?_
  rw [Hhd.out]
  rintro e x1 ⟨rfl, hb⟩
  have HB := hidden ((six_new w _ _ _ _ _ _).trans (hb.mono (six_new w _ _ _ _ _ _).size))
  clear hb
  go_wp2_with fail
  refine (subset_any cb ca _ (by omega)).mono ?_
  rw [Hhs.out]
  rintro e x1 ⟨rfl, rfl⟩
  go_wp2
  go_ret
  exact ⟨rfl, HB.out⟩

set_option maxHeartbeats 4000000 in
set_option maxRecDepth 20000 in
theorem sp_tt_no (la : Int) (ca : ByteArray) (lb : Int) (cb : ByteArray) (w : World) (ga : ¬ (524288 : Int) < (ca.size : Int)) (gb : ¬ (524288 : Int) < (cb.size : Int)) (ea : endsZ ca = false) (eb : endsZ cb = false) (hlv : lb ≤ la) (hd : domS la ca lb cb = false) (hs : subB cb ca = false) :
    Calls Trym.prog 4 #[.bool false, .bool true, .int .i64 la, .string ca, .bool false, .bool true, .int .i64 lb, .string cb] w fun e w' => e = .returned (.bool true) ∧ Below w.heap.size w w' := by
  have EA := hidden ea
  have EB := hidden eb
  clear ea eb
  have Hhd := hidden hd
  clear hd
  have Hhs := hidden hs
  clear hs
  go_enter Trym.func4, Trym.ntmps4
  go_wp2_with fail
  refine (zz9 _ _ _ _ _ _ _ _ _).mono ?_
  rintro e w ⟨⟨b, rfl⟩, rfl⟩
  cases b
  · go_wp2
    go_ret
    exact ⟨rfl, Below.refl _ _⟩
  go_wp2_with fail
  refine (ends_any ca _ (by omega)).mono ?_
  rw [EA.out]
  rintro e w ⟨rfl, rfl⟩
  go_wp2_with fail
  refine (ends_any cb _ (by omega)).mono ?_
  rw [EB.out]
  rintro e w ⟨rfl, rfl⟩
  go_wp2_with fail
  refine (lattice_any _).mono ?_
  rintro e w1 ⟨rfl, rfl⟩
  go_wp2_with fail
  refine (lattice_any _).mono ?_
  rintro e w1 ⟨rfl, rfl⟩
  go_wp2_with fail
  refine (label_any _ la ca _).mono ?_
  rintro e w1 ⟨rfl, rfl⟩
  go_wp2_with fail
  refine (label_any _ lb cb _).mono ?_
  rintro e w1 ⟨rfl, rfl⟩
  go_wp2_with fail
  refine (dom_same ⟨w.heap.size + 1, 0, none⟩ la ca lb cb _ (by omega)).mono ?_
  rw [Hhd.out]
  rintro e x1 ⟨rfl, hb⟩
  have HB := hidden ((six_new w _ _ _ _ _ _).trans (hb.mono (six_new w _ _ _ _ _ _).size))
  clear hb
  go_wp2_with fail
  refine (subset_any cb ca _ (by omega)).mono ?_
  rw [Hhs.out]
  rintro e x1 ⟨rfl, rfl⟩
  go_wp2
  go_ret
  exact ⟨rfl, HB.out⟩

theorem dom_low_eq {la : Int} {ca : ByteArray} {lb : Int} {cb : ByteArray} (h : la < lb) : domS la ca lb cb = false := by
  simp [domS]; omega
theorem dom_high_eq {la : Int} {ca : ByteArray} {lb : Int} {cb : ByteArray} (h : lb ≤ la) (hz : endsZ cb = false) : domS la ca lb cb = subB cb ca := by
  rw [sub_iff_cov ca cb hz]
  simp [domS, h]

theorem sp_walk (a0 a1 : Bool) (la : Int) (ca : ByteArray) (a4 a5 : Bool) (lb : Int) (cb : ByteArray) (w : World) :
    Calls Trym.prog 4 #[.bool a0, .bool a1, .int .i64 la, .string ca, .bool a4, .bool a5, .int .i64 lb, .string cb] w fun e w' => e = .returned (.bool true) ∧ Below w.heap.size w w' := by
  by_cases g1 : (524288 : Int) < (ca.size : Int)
  · exact sp_long a0 a1 la ca a4 a5 lb cb w (.inl g1)
  by_cases g2 : (524288 : Int) < (cb.size : Int)
  · exact sp_long a0 a1 la ca a4 a5 lb cb w (.inr ⟨g1, g2⟩)
  cases ea : endsZ ca
  case true => exact sp_ends a0 a1 la ca a4 a5 lb cb w g1 g2 (.inl ea)
  cases eb : endsZ cb
  case true => exact sp_ends a0 a1 la ca a4 a5 lb cb w g1 g2 (.inr ⟨ea, eb⟩)
  cases a0
  case true => exact sp_nil a1 a4 a5 la ca lb cb w g1 g2 ea eb
  cases a4
  case true => exact sp_none a1 a5 la ca lb cb w g1 g2 ea eb
  cases a1 <;> cases a5
  · by_cases hl : la < lb
    · exact sp_ff_low la ca lb cb w g1 g2 ea eb hl (dom_low_eq hl)
    · have e := dom_high_eq (ca := ca) (Int.not_lt.1 hl) eb
      cases hs : subB cb ca
      · exact sp_ff_no la ca lb cb w g1 g2 ea eb (Int.not_lt.1 hl) (e.trans hs) hs
      · exact sp_ff_yes la ca lb cb w g1 g2 ea eb (Int.not_lt.1 hl) (e.trans hs) hs
  · exact sp_ft la ca lb cb w g1 g2 ea eb
  · exact sp_tf la ca lb cb w g1 g2 ea eb
  · by_cases hl : la < lb
    · exact sp_tt_low la ca lb cb w g1 g2 ea eb hl (dom_low_eq hl)
    · have e := dom_high_eq (ca := ca) (Int.not_lt.1 hl) eb
      cases hs : subB cb ca
      · exact sp_tt_no la ca lb cb w g1 g2 ea eb (Int.not_lt.1 hl) (e.trans hs) hs
      · exact sp_tt_yes la ca lb cb w g1 g2 ea eb (Int.not_lt.1 hl) (e.trans hs) hs
end Go.Proofs.Qxb6602622aMods
