/- Seat 622: the walk of the law FnDominatesPartialOrder. -/
import Derived.Test.Qxb6602622aModsC
namespace Go.Proofs.Qxb6602622aMods
open Go.ChangeShapes Go.WideShapes Go.ChangeAt Go.RowKit
set_option linter.unusedVariables false

/-- The law's three labels and the zero one, in memory: the lattice's block is n. -/
structure Labs (W : World) (n : Nat) (la : Int) (ca : ByteArray) (lb : Int) (cb : ByteArray) (lc : Int) (cc : ByteArray) : Prop where
  a0 : W.cell? ⟨n + 1 + 1, 0, none⟩ = some (.pointer (some ⟨n, 0, none⟩))
  a1 : W.cell? ⟨n + 1 + 1, 1, none⟩ = some (.int .i64 la)
  a2 : W.cell? ⟨n + 1 + 1, 2, none⟩ = some (.string ca)
  b0 : W.cell? ⟨n + 1 + 1 + 1 + 1, 0, none⟩ = some (.pointer (some ⟨n, 0, none⟩))
  b1 : W.cell? ⟨n + 1 + 1 + 1 + 1, 1, none⟩ = some (.int .i64 lb)
  b2 : W.cell? ⟨n + 1 + 1 + 1 + 1, 2, none⟩ = some (.string cb)
  c0 : W.cell? ⟨n + 1 + 1 + 1 + 1 + 1 + 1, 0, none⟩ = some (.pointer (some ⟨n, 0, none⟩))
  c1 : W.cell? ⟨n + 1 + 1 + 1 + 1 + 1 + 1, 1, none⟩ = some (.int .i64 lc)
  c2 : W.cell? ⟨n + 1 + 1 + 1 + 1 + 1 + 1, 2, none⟩ = some (.string cc)
  z0 : W.cell? ⟨n + 1 + 1 + 1 + 1 + 1 + 1 + 1, 0, none⟩ = some (.pointer none)
  z1 : W.cell? ⟨n + 1 + 1 + 1 + 1 + 1 + 1 + 1, 1, none⟩ = some (.int .i64 0)
  z2 : W.cell? ⟨n + 1 + 1 + 1 + 1 + 1 + 1 + 1, 2, none⟩ = some (.string ⟨#[]⟩)
  size : n + 8 ≤ W.heap.size

theorem Labs.below {W W' : World} {n : Nat} {la : Int} {ca : ByteArray} {lb : Int} {cb : ByteArray} {lc : Int} {cc : ByteArray} (h : Labs W n la ca lb cb lc cc) (hb : Below W.heap.size W W') : Labs W' n la ca lb cb lc cc where
  a0 := (hb.cell (block_lt_of_cell h.a0)).trans h.a0
  a1 := (hb.cell (block_lt_of_cell h.a1)).trans h.a1
  a2 := (hb.cell (block_lt_of_cell h.a2)).trans h.a2
  b0 := (hb.cell (block_lt_of_cell h.b0)).trans h.b0
  b1 := (hb.cell (block_lt_of_cell h.b1)).trans h.b1
  b2 := (hb.cell (block_lt_of_cell h.b2)).trans h.b2
  c0 := (hb.cell (block_lt_of_cell h.c0)).trans h.c0
  c1 := (hb.cell (block_lt_of_cell h.c1)).trans h.c1
  c2 := (hb.cell (block_lt_of_cell h.c2)).trans h.c2
  z0 := (hb.cell (block_lt_of_cell h.z0)).trans h.z0
  z1 := (hb.cell (block_lt_of_cell h.z1)).trans h.z1
  z2 := (hb.cell (block_lt_of_cell h.z2)).trans h.z2
  size := Nat.le_trans h.size hb.size

/-- The world in which they lie. -/
def labW (w : World) (la : Int) (ca : ByteArray) (lb : Int) (cb : ByteArray) (lc : Int) (cc : ByteArray) : World :=
  (((((((w.alloc latB).alloc (.cells #[.pointer (some ⟨w.heap.size, 0, none⟩), .int .i64 la, .string ca] 28)).alloc (.cells #[.pointer (some ⟨w.heap.size, 0, none⟩), .int .i64 la, .string ca] 28)).alloc (.cells #[.pointer (some ⟨w.heap.size, 0, none⟩), .int .i64 lb, .string cb] 28)).alloc (.cells #[.pointer (some ⟨w.heap.size, 0, none⟩), .int .i64 lb, .string cb] 28)).alloc (.cells #[.pointer (some ⟨w.heap.size, 0, none⟩), .int .i64 lc, .string cc] 28)).alloc (.cells #[.pointer (some ⟨w.heap.size, 0, none⟩), .int .i64 lc, .string cc] 28)).alloc (.cells #[.pointer none, .int .i64 0, .string ⟨#[]⟩] 28)
theorem labs_labW (w : World) (la : Int) (ca : ByteArray) (lb : Int) (cb : ByteArray) (lc : Int) (cc : ByteArray) : Labs (labW w la ca lb cb lc cc) w.heap.size la ca lb cb lc cc where
  a0 := by unfold labW; rw [World.cell?_alloc_past _ _ _ (by simp), World.cell?_alloc_past _ _ _ (by simp), World.cell?_alloc_past _ _ _ (by simp), World.cell?_alloc_past _ _ _ (by simp), World.cell?_alloc_past _ _ _ (by simp), World.cell?_alloc_at _ _ _ _ (by simp)]; rfl
  a1 := by unfold labW; rw [World.cell?_alloc_past _ _ _ (by simp), World.cell?_alloc_past _ _ _ (by simp), World.cell?_alloc_past _ _ _ (by simp), World.cell?_alloc_past _ _ _ (by simp), World.cell?_alloc_past _ _ _ (by simp), World.cell?_alloc_at _ _ _ _ (by simp)]; rfl
  a2 := by unfold labW; rw [World.cell?_alloc_past _ _ _ (by simp), World.cell?_alloc_past _ _ _ (by simp), World.cell?_alloc_past _ _ _ (by simp), World.cell?_alloc_past _ _ _ (by simp), World.cell?_alloc_past _ _ _ (by simp), World.cell?_alloc_at _ _ _ _ (by simp)]; rfl
  b0 := by unfold labW; rw [World.cell?_alloc_past _ _ _ (by simp), World.cell?_alloc_past _ _ _ (by simp), World.cell?_alloc_past _ _ _ (by simp), World.cell?_alloc_at _ _ _ _ (by simp)]; rfl
  b1 := by unfold labW; rw [World.cell?_alloc_past _ _ _ (by simp), World.cell?_alloc_past _ _ _ (by simp), World.cell?_alloc_past _ _ _ (by simp), World.cell?_alloc_at _ _ _ _ (by simp)]; rfl
  b2 := by unfold labW; rw [World.cell?_alloc_past _ _ _ (by simp), World.cell?_alloc_past _ _ _ (by simp), World.cell?_alloc_past _ _ _ (by simp), World.cell?_alloc_at _ _ _ _ (by simp)]; rfl
  c0 := by unfold labW; rw [World.cell?_alloc_past _ _ _ (by simp), World.cell?_alloc_at _ _ _ _ (by simp)]; rfl
  c1 := by unfold labW; rw [World.cell?_alloc_past _ _ _ (by simp), World.cell?_alloc_at _ _ _ _ (by simp)]; rfl
  c2 := by unfold labW; rw [World.cell?_alloc_past _ _ _ (by simp), World.cell?_alloc_at _ _ _ _ (by simp)]; rfl
  z0 := by unfold labW; rw [World.cell?_alloc_at _ _ _ _ (by simp)]; rfl
  z1 := by unfold labW; rw [World.cell?_alloc_at _ _ _ _ (by simp)]; rfl
  z2 := by unfold labW; rw [World.cell?_alloc_at _ _ _ _ (by simp)]; rfl
  size := by unfold labW; simp
theorem below_labW (w : World) (la : Int) (ca : ByteArray) (lb : Int) (cb : ByteArray) (lc : Int) (cc : ByteArray) : Below w.heap.size w (labW w la ca lb cb lc cc) := by
  unfold labW
  exact ((((((((Below.refl _ _).alloc (Nat.le_refl _) _).alloc (by simp <;> omega) _).alloc (by simp <;> omega) _).alloc (by simp <;> omega) _).alloc (by simp <;> omega) _).alloc (by simp <;> omega) _).alloc (by simp <;> omega) _).alloc (by simp <;> omega) _

set_option maxHeartbeats 4000000 in
set_option maxRecDepth 20000 in
theorem po_i (la : Int) (ca : ByteArray) (lb : Int) (cb : ByteArray) (lc : Int) (cc : ByteArray) (w : World) (ga : ca.size ≤ 262144) (gb : cb.size ≤ 262144) (gc : cc.size ≤ 262144) (ea : endsZ ca = false) (eb : endsZ cb = false) (ec : endsZ cc = false) (hab : domS la ca lb cb = false) :
    Calls Trym.prog 5 #[.int .i64 la, .string ca, .int .i64 lb, .string cb, .int .i64 lc, .string cc] w fun e w' => e = .returned (.bool true) ∧ Below w.heap.size w w' := by
  have ga' : ¬ (262144 : Int) < (ca.size : Int) := by omega
  have gb' : ¬ (262144 : Int) < (cb.size : Int) := by omega
  have gc' : ¬ (262144 : Int) < (cc.size : Int) := by omega
  have EA := hidden ea
  have EC := hidden ec
  have EB := hidden eb
  clear ea ec eb
  have Hhab := hidden hab
  clear hab
  go_enter Trym.func5, Trym.ntmps5
  go_wp2_with fail
  refine (zz15 _ _ _ _ _ _ _).mono ?_
  rintro e w ⟨⟨b, rfl⟩, rfl⟩
  cases b
  · go_wp2
    go_ret
    exact ⟨rfl, Below.refl _ _⟩
  go_wp2_with fail
  refine (ends_any ca _ (by omega)).mono ?_
  rw [EA.out]
  rintro e w ⟨rfl, rfl⟩
  go_wp2_with fail
  refine (ends_any cb _ (by omega)).mono ?_
  rw [EB.out]
  rintro e w ⟨rfl, rfl⟩
  go_wp2_with fail
  refine (ends_any cc _ (by omega)).mono ?_
  rw [EC.out]
  rintro e w ⟨rfl, rfl⟩
  go_wp2_with fail
  refine (lattice_any _).mono ?_
  rintro e w1 ⟨rfl, rfl⟩
  go_wp2_with fail
  refine (label_any _ la ca _).mono ?_
  rintro e w1 ⟨rfl, rfl⟩
  go_wp2_with fail
  refine (label_any _ lb cb _).mono ?_
  rintro e w1 ⟨rfl, rfl⟩
  go_wp2_with fail
  refine (label_any _ lc cc _).mono ?_
  rintro e w1 ⟨rfl, rfl⟩
  have HL0 := hidden (labs_labW w la ca lb cb lc cc)
  have HB0 := hidden (below_labW w la ca lb cb lc cc)
  go_wp2_with fail
  refine (dom_same ⟨w.heap.size, 0, none⟩ la ca la ca _ (by omega)).mono ?_
  rw [domS_refl]
  rintro e x1 ⟨rfl, hb⟩
  have hb' : Below (labW w la ca lb cb lc cc).heap.size (labW w la ca lb cb lc cc) x1 := hb
  have HL1 := hidden (HL0.out.below hb')
  have HB1 := hidden (HB0.out.trans (hb'.mono HB0.out.size))
  clear hb hb' HL0 HB0
  obtain ⟨a0, a1, a2, b0, b1, b2, c0, c1, c2, z0, z1, z2, hs⟩ := HL1.out
  go_wp2_with fail
  refine (dom_nil _ _ _ _ _ _).mono ?_
  rintro e x2 ⟨rfl, hb⟩
  have hb' : Below x1.heap.size x1 x2 := hb
  have HL2 := hidden (HL1.out.below hb')
  have HB2 := hidden (HB1.out.trans (hb'.mono HB1.out.size))
  clear a0 a1 a2 b0 b1 b2 c0 c1 c2 z0 z1 z2 hs
  clear hb hb' HL1 HB1
  obtain ⟨a0, a1, a2, b0, b1, b2, c0, c1, c2, z0, z1, z2, hs⟩ := HL2.out
  go_wp2_with fail
  refine (dom_nil _ _ _ _ _ _).mono ?_
  rintro e x3 ⟨rfl, hb⟩
  have hb' : Below x2.heap.size x2 x3 := hb
  have HL3 := hidden (HL2.out.below hb')
  have HB3 := hidden (HB2.out.trans (hb'.mono HB2.out.size))
  clear a0 a1 a2 b0 b1 b2 c0 c1 c2 z0 z1 z2 hs
  clear hb hb' HL2 HB2
  obtain ⟨a0, a1, a2, b0, b1, b2, c0, c1, c2, z0, z1, z2, hs⟩ := HL3.out
  go_wp2_with fail
  refine (dom_none _ _ _ _ _ _).mono ?_
  rintro e x4 ⟨rfl, hb⟩
  have hb' : Below x3.heap.size x3 x4 := hb
  have HL4 := hidden (HL3.out.below hb')
  have HB4 := hidden (HB3.out.trans (hb'.mono HB3.out.size))
  clear a0 a1 a2 b0 b1 b2 c0 c1 c2 z0 z1 z2 hs
  clear hb hb' HL3 HB3
  obtain ⟨a0, a1, a2, b0, b1, b2, c0, c1, c2, z0, z1, z2, hs⟩ := HL4.out
  go_wp2_with fail
  refine (dom_same ⟨w.heap.size, 0, none⟩ la ca lb cb _ (by omega)).mono ?_
  rw [Hhab.out]
  rintro e x5 ⟨rfl, hb⟩
  have hb' : Below x4.heap.size x4 x5 := hb
  have HL5 := hidden (HL4.out.below hb')
  have HB5 := hidden (HB4.out.trans (hb'.mono HB4.out.size))
  clear a0 a1 a2 b0 b1 b2 c0 c1 c2 z0 z1 z2 hs
  clear hb hb' HL4 HB4
  obtain ⟨a0, a1, a2, b0, b1, b2, c0, c1, c2, z0, z1, z2, hs⟩ := HL5.out
  go_wp2_with fail
  refine (dom_same ⟨w.heap.size, 0, none⟩ la ca lb cb _ (by omega)).mono ?_
  rw [Hhab.out]
  rintro e x6 ⟨rfl, hb⟩
  have hb' : Below x5.heap.size x5 x6 := hb
  have HL6 := hidden (HL5.out.below hb')
  have HB6 := hidden (HB5.out.trans (hb'.mono HB5.out.size))
  clear a0 a1 a2 b0 b1 b2 c0 c1 c2 z0 z1 z2 hs
  clear hb hb' HL5 HB5
  obtain ⟨a0, a1, a2, b0, b1, b2, c0, c1, c2, z0, z1, z2, hs⟩ := HL6.out
  go_wp2
  go_ret
  exact ⟨rfl, HB6.out⟩

set_option maxHeartbeats 4000000 in
set_option maxRecDepth 20000 in
theorem po_ii (la : Int) (ca : ByteArray) (lb : Int) (cb : ByteArray) (lc : Int) (cc : ByteArray) (w : World) (ga : ca.size ≤ 262144) (gb : cb.size ≤ 262144) (gc : cc.size ≤ 262144) (ea : endsZ ca = false) (eb : endsZ cb = false) (ec : endsZ cc = false) (hab : domS la ca lb cb = true) (hba : domS lb cb la ca = false) (hbc : domS lb cb lc cc = false) :
    Calls Trym.prog 5 #[.int .i64 la, .string ca, .int .i64 lb, .string cb, .int .i64 lc, .string cc] w fun e w' => e = .returned (.bool true) ∧ Below w.heap.size w w' := by
  have ga' : ¬ (262144 : Int) < (ca.size : Int) := by omega
  have gb' : ¬ (262144 : Int) < (cb.size : Int) := by omega
  have gc' : ¬ (262144 : Int) < (cc.size : Int) := by omega
  have EA := hidden ea
  have EC := hidden ec
  have EB := hidden eb
  clear ea ec eb
  have Hhab := hidden hab
  clear hab
  have Hhba := hidden hba
  clear hba
  have Hhbc := hidden hbc
  clear hbc
  go_enter Trym.func5, Trym.ntmps5
  go_wp2_with fail
  refine (zz15 _ _ _ _ _ _ _).mono ?_
  rintro e w ⟨⟨b, rfl⟩, rfl⟩
  cases b
  · go_wp2
    go_ret
    exact ⟨rfl, Below.refl _ _⟩
  go_wp2_with fail
  refine (ends_any ca _ (by omega)).mono ?_
  rw [EA.out]
  rintro e w ⟨rfl, rfl⟩
  go_wp2_with fail
  refine (ends_any cb _ (by omega)).mono ?_
  rw [EB.out]
  rintro e w ⟨rfl, rfl⟩
  go_wp2_with fail
  refine (ends_any cc _ (by omega)).mono ?_
  rw [EC.out]
  rintro e w ⟨rfl, rfl⟩
  go_wp2_with fail
  refine (lattice_any _).mono ?_
  rintro e w1 ⟨rfl, rfl⟩
  go_wp2_with fail
  refine (label_any _ la ca _).mono ?_
  rintro e w1 ⟨rfl, rfl⟩
  go_wp2_with fail
  refine (label_any _ lb cb _).mono ?_
  rintro e w1 ⟨rfl, rfl⟩
  go_wp2_with fail
  refine (label_any _ lc cc _).mono ?_
  rintro e w1 ⟨rfl, rfl⟩
  have HL0 := hidden (labs_labW w la ca lb cb lc cc)
  have HB0 := hidden (below_labW w la ca lb cb lc cc)
  go_wp2_with fail
  refine (dom_same ⟨w.heap.size, 0, none⟩ la ca la ca _ (by omega)).mono ?_
  rw [domS_refl]
  rintro e x1 ⟨rfl, hb⟩
  have hb' : Below (labW w la ca lb cb lc cc).heap.size (labW w la ca lb cb lc cc) x1 := hb
  have HL1 := hidden (HL0.out.below hb')
  have HB1 := hidden (HB0.out.trans (hb'.mono HB0.out.size))
  clear hb hb' HL0 HB0
  obtain ⟨a0, a1, a2, b0, b1, b2, c0, c1, c2, z0, z1, z2, hs⟩ := HL1.out
  go_wp2_with fail
  refine (dom_nil _ _ _ _ _ _).mono ?_
  rintro e x2 ⟨rfl, hb⟩
  have hb' : Below x1.heap.size x1 x2 := hb
  have HL2 := hidden (HL1.out.below hb')
  have HB2 := hidden (HB1.out.trans (hb'.mono HB1.out.size))
  clear a0 a1 a2 b0 b1 b2 c0 c1 c2 z0 z1 z2 hs
  clear hb hb' HL1 HB1
  obtain ⟨a0, a1, a2, b0, b1, b2, c0, c1, c2, z0, z1, z2, hs⟩ := HL2.out
  go_wp2_with fail
  refine (dom_nil _ _ _ _ _ _).mono ?_
  rintro e x3 ⟨rfl, hb⟩
  have hb' : Below x2.heap.size x2 x3 := hb
  have HL3 := hidden (HL2.out.below hb')
  have HB3 := hidden (HB2.out.trans (hb'.mono HB2.out.size))
  clear a0 a1 a2 b0 b1 b2 c0 c1 c2 z0 z1 z2 hs
  clear hb hb' HL2 HB2
  obtain ⟨a0, a1, a2, b0, b1, b2, c0, c1, c2, z0, z1, z2, hs⟩ := HL3.out
  go_wp2_with fail
  refine (dom_none _ _ _ _ _ _).mono ?_
  rintro e x4 ⟨rfl, hb⟩
  have hb' : Below x3.heap.size x3 x4 := hb
  have HL4 := hidden (HL3.out.below hb')
  have HB4 := hidden (HB3.out.trans (hb'.mono HB3.out.size))
  clear a0 a1 a2 b0 b1 b2 c0 c1 c2 z0 z1 z2 hs
  clear hb hb' HL3 HB3
  obtain ⟨a0, a1, a2, b0, b1, b2, c0, c1, c2, z0, z1, z2, hs⟩ := HL4.out
  go_wp2_with fail
  refine (dom_same ⟨w.heap.size, 0, none⟩ la ca lb cb _ (by omega)).mono ?_
  rw [Hhab.out]
  rintro e x5 ⟨rfl, hb⟩
  have hb' : Below x4.heap.size x4 x5 := hb
  have HL5 := hidden (HL4.out.below hb')
  have HB5 := hidden (HB4.out.trans (hb'.mono HB4.out.size))
  clear a0 a1 a2 b0 b1 b2 c0 c1 c2 z0 z1 z2 hs
  clear hb hb' HL4 HB4
  obtain ⟨a0, a1, a2, b0, b1, b2, c0, c1, c2, z0, z1, z2, hs⟩ := HL5.out
  go_wp2_with fail
  refine (dom_same ⟨w.heap.size, 0, none⟩ lb cb la ca _ (by omega)).mono ?_
  rw [Hhba.out]
  rintro e x6 ⟨rfl, hb⟩
  have hb' : Below x5.heap.size x5 x6 := hb
  have HL6 := hidden (HL5.out.below hb')
  have HB6 := hidden (HB5.out.trans (hb'.mono HB5.out.size))
  clear a0 a1 a2 b0 b1 b2 c0 c1 c2 z0 z1 z2 hs
  clear hb hb' HL5 HB5
  obtain ⟨a0, a1, a2, b0, b1, b2, c0, c1, c2, z0, z1, z2, hs⟩ := HL6.out
  go_wp2_with fail
  refine (dom_same ⟨w.heap.size, 0, none⟩ la ca lb cb _ (by omega)).mono ?_
  rw [Hhab.out]
  rintro e x7 ⟨rfl, hb⟩
  have hb' : Below x6.heap.size x6 x7 := hb
  have HL7 := hidden (HL6.out.below hb')
  have HB7 := hidden (HB6.out.trans (hb'.mono HB6.out.size))
  clear a0 a1 a2 b0 b1 b2 c0 c1 c2 z0 z1 z2 hs
  clear hb hb' HL6 HB6
  obtain ⟨a0, a1, a2, b0, b1, b2, c0, c1, c2, z0, z1, z2, hs⟩ := HL7.out
  go_wp2_with fail
  refine (dom_same ⟨w.heap.size, 0, none⟩ lb cb lc cc _ (by omega)).mono ?_
  rw [Hhbc.out]
  rintro e x8 ⟨rfl, hb⟩
  have hb' : Below x7.heap.size x7 x8 := hb
  have HL8 := hidden (HL7.out.below hb')
  have HB8 := hidden (HB7.out.trans (hb'.mono HB7.out.size))
  clear a0 a1 a2 b0 b1 b2 c0 c1 c2 z0 z1 z2 hs
  clear hb hb' HL7 HB7
  obtain ⟨a0, a1, a2, b0, b1, b2, c0, c1, c2, z0, z1, z2, hs⟩ := HL8.out
  go_wp2
  go_ret
  exact ⟨rfl, HB8.out⟩

set_option maxHeartbeats 4000000 in
set_option maxRecDepth 20000 in
theorem po_iii (la : Int) (ca : ByteArray) (lb : Int) (cb : ByteArray) (lc : Int) (cc : ByteArray) (w : World) (ga : ca.size ≤ 262144) (gb : cb.size ≤ 262144) (gc : cc.size ≤ 262144) (ea : endsZ ca = false) (eb : endsZ cb = false) (ec : endsZ cc = false) (hab : domS la ca lb cb = true) (hba : domS lb cb la ca = false) (hbc : domS lb cb lc cc = true) (hac : domS la ca lc cc = true) :
    Calls Trym.prog 5 #[.int .i64 la, .string ca, .int .i64 lb, .string cb, .int .i64 lc, .string cc] w fun e w' => e = .returned (.bool true) ∧ Below w.heap.size w w' := by
  have ga' : ¬ (262144 : Int) < (ca.size : Int) := by omega
  have gb' : ¬ (262144 : Int) < (cb.size : Int) := by omega
  have gc' : ¬ (262144 : Int) < (cc.size : Int) := by omega
  have EA := hidden ea
  have EC := hidden ec
  have EB := hidden eb
  clear ea ec eb
  have Hhab := hidden hab
  clear hab
  have Hhba := hidden hba
  clear hba
  have Hhbc := hidden hbc
  clear hbc
  have Hhac := hidden hac
  clear hac
  go_enter Trym.func5, Trym.ntmps5
  go_wp2_with fail
  refine (zz15 _ _ _ _ _ _ _).mono ?_
  rintro e w ⟨⟨b, rfl⟩, rfl⟩
  cases b
  · go_wp2
    go_ret
    exact ⟨rfl, Below.refl _ _⟩
  go_wp2_with fail
  refine (ends_any ca _ (by omega)).mono ?_
  rw [EA.out]
  rintro e w ⟨rfl, rfl⟩
  go_wp2_with fail
  refine (ends_any cb _ (by omega)).mono ?_
  rw [EB.out]
  rintro e w ⟨rfl, rfl⟩
  go_wp2_with fail
  refine (ends_any cc _ (by omega)).mono ?_
  rw [EC.out]
  rintro e w ⟨rfl, rfl⟩
  go_wp2_with fail
  refine (lattice_any _).mono ?_
  rintro e w1 ⟨rfl, rfl⟩
  go_wp2_with fail
  refine (label_any _ la ca _).mono ?_
  rintro e w1 ⟨rfl, rfl⟩
  go_wp2_with fail
  refine (label_any _ lb cb _).mono ?_
  rintro e w1 ⟨rfl, rfl⟩
  go_wp2_with fail
  refine (label_any _ lc cc _).mono ?_
  rintro e w1 ⟨rfl, rfl⟩
  have HL0 := hidden (labs_labW w la ca lb cb lc cc)
  have HB0 := hidden (below_labW w la ca lb cb lc cc)
  go_wp2_with fail
  refine (dom_same ⟨w.heap.size, 0, none⟩ la ca la ca _ (by omega)).mono ?_
  rw [domS_refl]
  rintro e x1 ⟨rfl, hb⟩
  have hb' : Below (labW w la ca lb cb lc cc).heap.size (labW w la ca lb cb lc cc) x1 := hb
  have HL1 := hidden (HL0.out.below hb')
  have HB1 := hidden (HB0.out.trans (hb'.mono HB0.out.size))
  clear hb hb' HL0 HB0
  obtain ⟨a0, a1, a2, b0, b1, b2, c0, c1, c2, z0, z1, z2, hs⟩ := HL1.out
  go_wp2_with fail
  refine (dom_nil _ _ _ _ _ _).mono ?_
  rintro e x2 ⟨rfl, hb⟩
  have hb' : Below x1.heap.size x1 x2 := hb
  have HL2 := hidden (HL1.out.below hb')
  have HB2 := hidden (HB1.out.trans (hb'.mono HB1.out.size))
  clear a0 a1 a2 b0 b1 b2 c0 c1 c2 z0 z1 z2 hs
  clear hb hb' HL1 HB1
  obtain ⟨a0, a1, a2, b0, b1, b2, c0, c1, c2, z0, z1, z2, hs⟩ := HL2.out
  go_wp2_with fail
  refine (dom_nil _ _ _ _ _ _).mono ?_
  rintro e x3 ⟨rfl, hb⟩
  have hb' : Below x2.heap.size x2 x3 := hb
  have HL3 := hidden (HL2.out.below hb')
  have HB3 := hidden (HB2.out.trans (hb'.mono HB2.out.size))
  clear a0 a1 a2 b0 b1 b2 c0 c1 c2 z0 z1 z2 hs
  clear hb hb' HL2 HB2
  obtain ⟨a0, a1, a2, b0, b1, b2, c0, c1, c2, z0, z1, z2, hs⟩ := HL3.out
  go_wp2_with fail
  refine (dom_none _ _ _ _ _ _).mono ?_
  rintro e x4 ⟨rfl, hb⟩
  have hb' : Below x3.heap.size x3 x4 := hb
  have HL4 := hidden (HL3.out.below hb')
  have HB4 := hidden (HB3.out.trans (hb'.mono HB3.out.size))
  clear a0 a1 a2 b0 b1 b2 c0 c1 c2 z0 z1 z2 hs
  clear hb hb' HL3 HB3
  obtain ⟨a0, a1, a2, b0, b1, b2, c0, c1, c2, z0, z1, z2, hs⟩ := HL4.out
  go_wp2_with fail
  refine (dom_same ⟨w.heap.size, 0, none⟩ la ca lb cb _ (by omega)).mono ?_
  rw [Hhab.out]
  rintro e x5 ⟨rfl, hb⟩
  have hb' : Below x4.heap.size x4 x5 := hb
  have HL5 := hidden (HL4.out.below hb')
  have HB5 := hidden (HB4.out.trans (hb'.mono HB4.out.size))
  clear a0 a1 a2 b0 b1 b2 c0 c1 c2 z0 z1 z2 hs
  clear hb hb' HL4 HB4
  obtain ⟨a0, a1, a2, b0, b1, b2, c0, c1, c2, z0, z1, z2, hs⟩ := HL5.out
  go_wp2_with fail
  refine (dom_same ⟨w.heap.size, 0, none⟩ lb cb la ca _ (by omega)).mono ?_
  rw [Hhba.out]
  rintro e x6 ⟨rfl, hb⟩
  have hb' : Below x5.heap.size x5 x6 := hb
  have HL6 := hidden (HL5.out.below hb')
  have HB6 := hidden (HB5.out.trans (hb'.mono HB5.out.size))
  clear a0 a1 a2 b0 b1 b2 c0 c1 c2 z0 z1 z2 hs
  clear hb hb' HL5 HB5
  obtain ⟨a0, a1, a2, b0, b1, b2, c0, c1, c2, z0, z1, z2, hs⟩ := HL6.out
  go_wp2_with fail
  refine (dom_same ⟨w.heap.size, 0, none⟩ la ca lb cb _ (by omega)).mono ?_
  rw [Hhab.out]
  rintro e x7 ⟨rfl, hb⟩
  have hb' : Below x6.heap.size x6 x7 := hb
  have HL7 := hidden (HL6.out.below hb')
  have HB7 := hidden (HB6.out.trans (hb'.mono HB6.out.size))
  clear a0 a1 a2 b0 b1 b2 c0 c1 c2 z0 z1 z2 hs
  clear hb hb' HL6 HB6
  obtain ⟨a0, a1, a2, b0, b1, b2, c0, c1, c2, z0, z1, z2, hs⟩ := HL7.out
  go_wp2_with fail
  refine (dom_same ⟨w.heap.size, 0, none⟩ lb cb lc cc _ (by omega)).mono ?_
  rw [Hhbc.out]
  rintro e x8 ⟨rfl, hb⟩
  have hb' : Below x7.heap.size x7 x8 := hb
  have HL8 := hidden (HL7.out.below hb')
  have HB8 := hidden (HB7.out.trans (hb'.mono HB7.out.size))
  clear a0 a1 a2 b0 b1 b2 c0 c1 c2 z0 z1 z2 hs
  clear hb hb' HL7 HB7
  obtain ⟨a0, a1, a2, b0, b1, b2, c0, c1, c2, z0, z1, z2, hs⟩ := HL8.out
  go_wp2_with fail
  refine (dom_same ⟨w.heap.size, 0, none⟩ la ca lc cc _ (by omega)).mono ?_
  rw [Hhac.out]
  rintro e x9 ⟨rfl, hb⟩
  have hb' : Below x8.heap.size x8 x9 := hb
  have HL9 := hidden (HL8.out.below hb')
  have HB9 := hidden (HB8.out.trans (hb'.mono HB8.out.size))
  clear a0 a1 a2 b0 b1 b2 c0 c1 c2 z0 z1 z2 hs
  clear hb hb' HL8 HB8
  obtain ⟨a0, a1, a2, b0, b1, b2, c0, c1, c2, z0, z1, z2, hs⟩ := HL9.out
  go_wp2
  go_ret
  exact ⟨rfl, HB9.out⟩

set_option maxHeartbeats 4000000 in
set_option maxRecDepth 20000 in
theorem po_iv (la : Int) (ca : ByteArray) (lc : Int) (cc : ByteArray) (w : World) (ga : ca.size ≤ 262144) (gc : cc.size ≤ 262144) (ea : endsZ ca = false) (ec : endsZ cc = false) (hbc : domS la ca lc cc = false) :
    Calls Trym.prog 5 #[.int .i64 la, .string ca, .int .i64 la, .string ca, .int .i64 lc, .string cc] w fun e w' => e = .returned (.bool true) ∧ Below w.heap.size w w' := by
  have ga' : ¬ (262144 : Int) < (ca.size : Int) := by omega
  have gb' : ¬ (262144 : Int) < (ca.size : Int) := by omega
  have gc' : ¬ (262144 : Int) < (cc.size : Int) := by omega
  have EA := hidden ea
  have EC := hidden ec
  clear ea ec
  have Hhbc := hidden hbc
  clear hbc
  have hnl := fun (w : World) (x : Addr) => neq_label x la ca w
  go_enter Trym.func5, Trym.ntmps5
  go_wp2_with fail
  refine (zz15 _ _ _ _ _ _ _).mono ?_
  rintro e w ⟨⟨b, rfl⟩, rfl⟩
  cases b
  · go_wp2
    go_ret
    exact ⟨rfl, Below.refl _ _⟩
  go_wp2_with fail
  refine (ends_any ca _ (by omega)).mono ?_
  rw [EA.out]
  rintro e w ⟨rfl, rfl⟩
  go_wp2_with fail
  refine (ends_any ca _ (by omega)).mono ?_
  rw [EA.out]
  rintro e w ⟨rfl, rfl⟩
  go_wp2_with fail
  refine (ends_any cc _ (by omega)).mono ?_
  rw [EC.out]
  rintro e w ⟨rfl, rfl⟩
  go_wp2_with fail
  refine (lattice_any _).mono ?_
  rintro e w1 ⟨rfl, rfl⟩
  go_wp2_with fail
  refine (label_any _ la ca _).mono ?_
  rintro e w1 ⟨rfl, rfl⟩
  go_wp2_with fail
  refine (label_any _ la ca _).mono ?_
  rintro e w1 ⟨rfl, rfl⟩
  go_wp2_with fail
  refine (label_any _ lc cc _).mono ?_
  rintro e w1 ⟨rfl, rfl⟩
  have HL0 := hidden (labs_labW w la ca la ca lc cc)
  have HB0 := hidden (below_labW w la ca la ca lc cc)
  go_wp2_with fail
  refine (dom_same ⟨w.heap.size, 0, none⟩ la ca la ca _ (by omega)).mono ?_
  rw [domS_refl]
  rintro e x1 ⟨rfl, hb⟩
  have hb' : Below (labW w la ca la ca lc cc).heap.size (labW w la ca la ca lc cc) x1 := hb
  have HL1 := hidden (HL0.out.below hb')
  have HB1 := hidden (HB0.out.trans (hb'.mono HB0.out.size))
  clear hb hb' HL0 HB0
  obtain ⟨a0, a1, a2, b0, b1, b2, c0, c1, c2, z0, z1, z2, hs⟩ := HL1.out
  go_wp2_with fail
  refine (dom_nil _ _ _ _ _ _).mono ?_
  rintro e x2 ⟨rfl, hb⟩
  have hb' : Below x1.heap.size x1 x2 := hb
  have HL2 := hidden (HL1.out.below hb')
  have HB2 := hidden (HB1.out.trans (hb'.mono HB1.out.size))
  clear a0 a1 a2 b0 b1 b2 c0 c1 c2 z0 z1 z2 hs
  clear hb hb' HL1 HB1
  obtain ⟨a0, a1, a2, b0, b1, b2, c0, c1, c2, z0, z1, z2, hs⟩ := HL2.out
  go_wp2_with fail
  refine (dom_nil _ _ _ _ _ _).mono ?_
  rintro e x3 ⟨rfl, hb⟩
  have hb' : Below x2.heap.size x2 x3 := hb
  have HL3 := hidden (HL2.out.below hb')
  have HB3 := hidden (HB2.out.trans (hb'.mono HB2.out.size))
  clear a0 a1 a2 b0 b1 b2 c0 c1 c2 z0 z1 z2 hs
  clear hb hb' HL2 HB2
  obtain ⟨a0, a1, a2, b0, b1, b2, c0, c1, c2, z0, z1, z2, hs⟩ := HL3.out
  go_wp2_with fail
  refine (dom_none _ _ _ _ _ _).mono ?_
  rintro e x4 ⟨rfl, hb⟩
  have hb' : Below x3.heap.size x3 x4 := hb
  have HL4 := hidden (HL3.out.below hb')
  have HB4 := hidden (HB3.out.trans (hb'.mono HB3.out.size))
  clear a0 a1 a2 b0 b1 b2 c0 c1 c2 z0 z1 z2 hs
  clear hb hb' HL3 HB3
  obtain ⟨a0, a1, a2, b0, b1, b2, c0, c1, c2, z0, z1, z2, hs⟩ := HL4.out
  go_wp2_with fail
  refine (dom_same ⟨w.heap.size, 0, none⟩ la ca la ca _ (by omega)).mono ?_
  rw [domS_refl]
  rintro e x5 ⟨rfl, hb⟩
  have hb' : Below x4.heap.size x4 x5 := hb
  have HL5 := hidden (HL4.out.below hb')
  have HB5 := hidden (HB4.out.trans (hb'.mono HB4.out.size))
  clear a0 a1 a2 b0 b1 b2 c0 c1 c2 z0 z1 z2 hs
  clear hb hb' HL4 HB4
  obtain ⟨a0, a1, a2, b0, b1, b2, c0, c1, c2, z0, z1, z2, hs⟩ := HL5.out
  go_wp2_with fail
  refine (dom_same ⟨w.heap.size, 0, none⟩ la ca la ca _ (by omega)).mono ?_
  rw [domS_refl]
  rintro e x6 ⟨rfl, hb⟩
  have hb' : Below x5.heap.size x5 x6 := hb
  have HL6 := hidden (HL5.out.below hb')
  have HB6 := hidden (HB5.out.trans (hb'.mono HB5.out.size))
  clear a0 a1 a2 b0 b1 b2 c0 c1 c2 z0 z1 z2 hs
  clear hb hb' HL5 HB5
  obtain ⟨a0, a1, a2, b0, b1, b2, c0, c1, c2, z0, z1, z2, hs⟩ := HL6.out
  go_wp2_with fail
  refine (dom_same ⟨w.heap.size, 0, none⟩ la ca la ca _ (by omega)).mono ?_
  rw [domS_refl]
  rintro e x7 ⟨rfl, hb⟩
  have hb' : Below x6.heap.size x6 x7 := hb
  have HL7 := hidden (HL6.out.below hb')
  have HB7 := hidden (HB6.out.trans (hb'.mono HB6.out.size))
  clear a0 a1 a2 b0 b1 b2 c0 c1 c2 z0 z1 z2 hs
  clear hb hb' HL6 HB6
  obtain ⟨a0, a1, a2, b0, b1, b2, c0, c1, c2, z0, z1, z2, hs⟩ := HL7.out
  go_wp2_with fail
  refine (dom_same ⟨w.heap.size, 0, none⟩ la ca lc cc _ (by omega)).mono ?_
  rw [Hhbc.out]
  rintro e x8 ⟨rfl, hb⟩
  have hb' : Below x7.heap.size x7 x8 := hb
  have HL8 := hidden (HL7.out.below hb')
  have HB8 := hidden (HB7.out.trans (hb'.mono HB7.out.size))
  clear a0 a1 a2 b0 b1 b2 c0 c1 c2 z0 z1 z2 hs
  clear hb hb' HL7 HB7
  obtain ⟨a0, a1, a2, b0, b1, b2, c0, c1, c2, z0, z1, z2, hs⟩ := HL8.out
  go_wp2
  go_ret
  exact ⟨rfl, HB8.out⟩

set_option maxHeartbeats 4000000 in
set_option maxRecDepth 20000 in
theorem po_v (la : Int) (ca : ByteArray) (lc : Int) (cc : ByteArray) (w : World) (ga : ca.size ≤ 262144) (gc : cc.size ≤ 262144) (ea : endsZ ca = false) (ec : endsZ cc = false) (hbc : domS la ca lc cc = true) :
    Calls Trym.prog 5 #[.int .i64 la, .string ca, .int .i64 la, .string ca, .int .i64 lc, .string cc] w fun e w' => e = .returned (.bool true) ∧ Below w.heap.size w w' := by
  have ga' : ¬ (262144 : Int) < (ca.size : Int) := by omega
  have gb' : ¬ (262144 : Int) < (ca.size : Int) := by omega
  have gc' : ¬ (262144 : Int) < (cc.size : Int) := by omega
  have EA := hidden ea
  have EC := hidden ec
  clear ea ec
  have Hhbc := hidden hbc
  clear hbc
  have hnl := fun (w : World) (x : Addr) => neq_label x la ca w
  go_enter Trym.func5, Trym.ntmps5
  go_wp2_with fail
  refine (zz15 _ _ _ _ _ _ _).mono ?_
  rintro e w ⟨⟨b, rfl⟩, rfl⟩
  cases b
  · go_wp2
    go_ret
    exact ⟨rfl, Below.refl _ _⟩
  go_wp2_with fail
  refine (ends_any ca _ (by omega)).mono ?_
  rw [EA.out]
  rintro e w ⟨rfl, rfl⟩
  go_wp2_with fail
  refine (ends_any ca _ (by omega)).mono ?_
  rw [EA.out]
  rintro e w ⟨rfl, rfl⟩
  go_wp2_with fail
  refine (ends_any cc _ (by omega)).mono ?_
  rw [EC.out]
  rintro e w ⟨rfl, rfl⟩
  go_wp2_with fail
  refine (lattice_any _).mono ?_
  rintro e w1 ⟨rfl, rfl⟩
  go_wp2_with fail
  refine (label_any _ la ca _).mono ?_
  rintro e w1 ⟨rfl, rfl⟩
  go_wp2_with fail
  refine (label_any _ la ca _).mono ?_
  rintro e w1 ⟨rfl, rfl⟩
  go_wp2_with fail
  refine (label_any _ lc cc _).mono ?_
  rintro e w1 ⟨rfl, rfl⟩
  have HL0 := hidden (labs_labW w la ca la ca lc cc)
  have HB0 := hidden (below_labW w la ca la ca lc cc)
  go_wp2_with fail
  refine (dom_same ⟨w.heap.size, 0, none⟩ la ca la ca _ (by omega)).mono ?_
  rw [domS_refl]
  rintro e x1 ⟨rfl, hb⟩
  have hb' : Below (labW w la ca la ca lc cc).heap.size (labW w la ca la ca lc cc) x1 := hb
  have HL1 := hidden (HL0.out.below hb')
  have HB1 := hidden (HB0.out.trans (hb'.mono HB0.out.size))
  clear hb hb' HL0 HB0
  obtain ⟨a0, a1, a2, b0, b1, b2, c0, c1, c2, z0, z1, z2, hs⟩ := HL1.out
  go_wp2_with fail
  refine (dom_nil _ _ _ _ _ _).mono ?_
  rintro e x2 ⟨rfl, hb⟩
  have hb' : Below x1.heap.size x1 x2 := hb
  have HL2 := hidden (HL1.out.below hb')
  have HB2 := hidden (HB1.out.trans (hb'.mono HB1.out.size))
  clear a0 a1 a2 b0 b1 b2 c0 c1 c2 z0 z1 z2 hs
  clear hb hb' HL1 HB1
  obtain ⟨a0, a1, a2, b0, b1, b2, c0, c1, c2, z0, z1, z2, hs⟩ := HL2.out
  go_wp2_with fail
  refine (dom_nil _ _ _ _ _ _).mono ?_
  rintro e x3 ⟨rfl, hb⟩
  have hb' : Below x2.heap.size x2 x3 := hb
  have HL3 := hidden (HL2.out.below hb')
  have HB3 := hidden (HB2.out.trans (hb'.mono HB2.out.size))
  clear a0 a1 a2 b0 b1 b2 c0 c1 c2 z0 z1 z2 hs
  clear hb hb' HL2 HB2
  obtain ⟨a0, a1, a2, b0, b1, b2, c0, c1, c2, z0, z1, z2, hs⟩ := HL3.out
  go_wp2_with fail
  refine (dom_none _ _ _ _ _ _).mono ?_
  rintro e x4 ⟨rfl, hb⟩
  have hb' : Below x3.heap.size x3 x4 := hb
  have HL4 := hidden (HL3.out.below hb')
  have HB4 := hidden (HB3.out.trans (hb'.mono HB3.out.size))
  clear a0 a1 a2 b0 b1 b2 c0 c1 c2 z0 z1 z2 hs
  clear hb hb' HL3 HB3
  obtain ⟨a0, a1, a2, b0, b1, b2, c0, c1, c2, z0, z1, z2, hs⟩ := HL4.out
  go_wp2_with fail
  refine (dom_same ⟨w.heap.size, 0, none⟩ la ca la ca _ (by omega)).mono ?_
  rw [domS_refl]
  rintro e x5 ⟨rfl, hb⟩
  have hb' : Below x4.heap.size x4 x5 := hb
  have HL5 := hidden (HL4.out.below hb')
  have HB5 := hidden (HB4.out.trans (hb'.mono HB4.out.size))
  clear a0 a1 a2 b0 b1 b2 c0 c1 c2 z0 z1 z2 hs
  clear hb hb' HL4 HB4
  obtain ⟨a0, a1, a2, b0, b1, b2, c0, c1, c2, z0, z1, z2, hs⟩ := HL5.out
  go_wp2_with fail
  refine (dom_same ⟨w.heap.size, 0, none⟩ la ca la ca _ (by omega)).mono ?_
  rw [domS_refl]
  rintro e x6 ⟨rfl, hb⟩
  have hb' : Below x5.heap.size x5 x6 := hb
  have HL6 := hidden (HL5.out.below hb')
  have HB6 := hidden (HB5.out.trans (hb'.mono HB5.out.size))
  clear a0 a1 a2 b0 b1 b2 c0 c1 c2 z0 z1 z2 hs
  clear hb hb' HL5 HB5
  obtain ⟨a0, a1, a2, b0, b1, b2, c0, c1, c2, z0, z1, z2, hs⟩ := HL6.out
  go_wp2_with fail
  refine (dom_same ⟨w.heap.size, 0, none⟩ la ca la ca _ (by omega)).mono ?_
  rw [domS_refl]
  rintro e x7 ⟨rfl, hb⟩
  have hb' : Below x6.heap.size x6 x7 := hb
  have HL7 := hidden (HL6.out.below hb')
  have HB7 := hidden (HB6.out.trans (hb'.mono HB6.out.size))
  clear a0 a1 a2 b0 b1 b2 c0 c1 c2 z0 z1 z2 hs
  clear hb hb' HL6 HB6
  obtain ⟨a0, a1, a2, b0, b1, b2, c0, c1, c2, z0, z1, z2, hs⟩ := HL7.out
  go_wp2_with fail
  refine (dom_same ⟨w.heap.size, 0, none⟩ la ca lc cc _ (by omega)).mono ?_
  rw [Hhbc.out]
  rintro e x8 ⟨rfl, hb⟩
  have hb' : Below x7.heap.size x7 x8 := hb
  have HL8 := hidden (HL7.out.below hb')
  have HB8 := hidden (HB7.out.trans (hb'.mono HB7.out.size))
  clear a0 a1 a2 b0 b1 b2 c0 c1 c2 z0 z1 z2 hs
  clear hb hb' HL7 HB7
  obtain ⟨a0, a1, a2, b0, b1, b2, c0, c1, c2, z0, z1, z2, hs⟩ := HL8.out
  go_wp2_with fail
  refine (dom_same ⟨w.heap.size, 0, none⟩ la ca lc cc _ (by omega)).mono ?_
  rw [Hhbc.out]
  rintro e x9 ⟨rfl, hb⟩
  have hb' : Below x8.heap.size x8 x9 := hb
  have HL9 := hidden (HL8.out.below hb')
  have HB9 := hidden (HB8.out.trans (hb'.mono HB8.out.size))
  clear a0 a1 a2 b0 b1 b2 c0 c1 c2 z0 z1 z2 hs
  clear hb hb' HL8 HB8
  obtain ⟨a0, a1, a2, b0, b1, b2, c0, c1, c2, z0, z1, z2, hs⟩ := HL9.out
  go_wp2
  go_ret
  exact ⟨rfl, HB9.out⟩

end Go.Proofs.Qxb6602622aMods
