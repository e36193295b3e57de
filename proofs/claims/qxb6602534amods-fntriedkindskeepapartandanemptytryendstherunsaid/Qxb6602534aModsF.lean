/- Seat 534: (*Recurring).Tried at no lines; the contract for every input. -/
import Derived.Test.Qxb6602534aModsE
namespace Go.Proofs.Qxb6602534aMods
open Go.ChangeShapes Go.WideShapes Go.ChangeAt Go.RowKit Go.Maps
set_option linter.unusedVariables false

theorem post_empty {rb B n m0 : Nat} {D : DataW Unit} {M : List UInt8 → List ByteArray} {kind : ByteArray} {w w1 wr w3 : World} (hbel : Below rb w w1) (hI : InvS wr rb B n D M) (hb : Below rb w1 wr) (hs : rb ≤ wr.heap.size)
    (hm : wr.ownsMap Trym.prog 9 (plainElem (H := Unit) Trym.prog 4) m0 0 (setD [])) (hlt : rb < m0) (hne : m0 ≠ B)
    (h3 : w3.ownsMap Trym.prog 9 mapRef B (n + 1) (D.put (keyL kind) (refD (some m0)))) (hg : wr.grownBy w3 (some B)) :
    TriedPost rb n M kind [] w (.returned (.slice none 0 0)) w3 :=
  ⟨_, rfl, ⟨none, 0, rfl, .inl rfl⟩, fun _ => rfl, .inr ⟨B, _, hI.put hm hlt hne h3 hg⟩, (hbel.trans hb).grown hg hs (fun j hj => by cases hj; exact Nat.le_of_lt hI.lt)⟩

set_option maxHeartbeats 1000000 in
theorem tried_empty_some (rb B n : Nat) (D : DataW Unit) (M : List UInt8 → List ByteArray) (kind : ByteArray) (a : Option Addr) (cap : Nat) (w : World)
    (hk : kind.size ≤ maxLen) (hn : n < 1000) (hI : InvS w rb B n D M) :
    Calls Trym.prog 9 #[.pointer (some ⟨rb, 0, none⟩), .string kind, .slice a 0 cap] w (TriedPost rb n M kind [] w) := by
  have hmn := fun (w : World) (r : Option Nat) => run_eql_map_nil (P := Trym.prog) w 27 9 35 r Trym.underlying27
  have hmk : ∀ w : World, (Instr.makeMap 35 (some (.int .i64 0))).run Trym.prog w = .ok (.map (some w.heap.size)) (w.alloc (.map #[] 0)) := run_makeMap_hint 0
  have hcell := hI.cell
  have hrbw : rb < w.heap.size := block_lt_of_cell hcell
  have hBne : w.heap.size ≠ B := by have := hI.own.lt; omega
  have hb0 : Below w.heap.size w (w.alloc (.map #[] 0)) := (Below.refl _ _).alloc (Nat.le_refl _) _
  have HI := hidden (hI.below hb0)
  have HB := hidden hb0
  have HM := hidden (World.ownsMap_made (H := Unit) w Trym.prog 9 (plainElem Trym.prog 4))
  clear hI hb0
  go_enter Trym.func9, Trym.ntmps9
  go_wp2
  refine wp_loop_rounds 1 ?_
  rw [rounds_succ]
  go_wp2_with (at_mapUpdate; refine wpList_mapUpdate_own _ rfl _ _ _ 27 rfl 9 35 law9 Trym.underlying27 mapRef B n D rfl HI.out.own ?d2 _ _ _ rfl rfl (key9 hk) (refD (some w.heap.size)) [] rfl ?_)
  case d2 => unfold maxLen; omega
  intro w3 hmap3 hgrow3
  have hfin : TriedPost rb n M kind [] w (.returned (.slice none 0 0)) w3 :=
    post_empty (Below.refl _ _) HI.out (HB.out.mono (Nat.le_of_lt hrbw)) (Nat.le_trans (Nat.le_of_lt hrbw) HB.out.size) HM.out hrbw hBne hmap3 hgrow3
  clear hmap3 hgrow3
  go_wp2
  go_ret
  exact hfin

set_option maxHeartbeats 1000000 in
theorem tried_empty_none (rb n : Nat) (M : List UInt8 → List ByteArray) (kind : ByteArray) (a : Option Addr) (cap : Nat) (w : World)
    (hk : kind.size ≤ maxLen) (hn : n < 1000) (h1 : w.cell? ⟨rb, 0, none⟩ = some (.map none)) (h2 : w.frozen? ⟨rb, 0, none⟩ = false) (h3 : ∀ q, M q = []) :
    Calls Trym.prog 9 #[.pointer (some ⟨rb, 0, none⟩), .string kind, .slice a 0 cap] w (TriedPost rb n M kind [] w) := by
  have hmn := fun (w : World) (r : Option Nat) => run_eql_map_nil (P := Trym.prog) w 27 9 35 r Trym.underlying27
  have hmk : ∀ w : World, (Instr.makeMap 35 (some (.int .i64 0))).run Trym.prog w = .ok (.map (some w.heap.size)) (w.alloc (.map #[] 0)) := run_makeMap_hint 0
  have hmm := @run_makeMap Trym.prog
  have hrb0 : rb < w.heap.size := block_lt_of_cell h1
  have hz0' : (w.setCell ⟨rb, 0, none⟩ (.map (some w.heap.size))).heap.size = w.heap.size := by simp
  obtain ⟨w1, hw1⟩ : ∃ w1, w1 = (w.setCell ⟨rb, 0, none⟩ (.map (some w.heap.size))).alloc (.map #[] 0) := ⟨_, rfl⟩
  have hI : InvS w1 rb w.heap.size n (.map []) M := by rw [hw1]; exact InvS.made2 h1 h2 h3
  have hbel : Below rb w w1 := by rw [hw1]; exact ((Below.refl _ _).setCell (Nat.le_refl _) _).alloc (by rw [hz0']; exact Nat.le_of_lt hrb0) _
  have hz1 : w1.heap.size = w.heap.size + 1 := by rw [hw1]; simp
  have hb0 : Below w1.heap.size w1 (w1.alloc (.map #[] 0)) := (Below.refl _ _).alloc (Nat.le_refl _) _
  have HW := hidden hw1
  clear hw1
  have HBel := hidden hbel
  have HI := hidden (hI.below hb0)
  have HB := hidden hb0
  have hcell := (hI.below hb0).cell
  have HM : Hid ((w1.alloc (.map #[] 0)).ownsMap Trym.prog 9 (plainElem (H := Unit) Trym.prog 4) (w.heap.size + 1) 0 (setD [])) := by rw [← hz1]; exact World.ownsMap_made w1 Trym.prog 9 _
  have HZ := hidden hz1
  clear hI hb0 hbel hz1 hz0'
  go_enter Trym.func9, Trym.ntmps9
  go_wp2
  rw [← HW.out]
  refine wp_loop_rounds 1 ?_
  rw [rounds_succ]
  go_wp2_with (at_mapUpdate; refine wpList_mapUpdate_own _ rfl _ _ _ 27 rfl 9 35 law9 Trym.underlying27 mapRef w.heap.size n (.map []) rfl HI.out.own ?d2 _ _ _ rfl rfl (key9 hk) (refD (some (w.heap.size + 1))) [] rfl ?_)
  case d2 => unfold maxLen; omega
  intro w3 hmap3 hgrow3
  have hfin : TriedPost rb n M kind [] w (.returned (.slice none 0 0)) w3 :=
    post_empty HBel.out HI.out (HB.out.mono (by rw [HZ.out]; omega)) (by have := HB.out.size; rw [HZ.out] at this; omega) HM.out (by omega) (by omega) hmap3 hgrow3
  clear hmap3 hgrow3
  go_wp2
  go_ret
  exact hfin

theorem tried_any (rb n : Nat) (M : List UInt8 → List ByteArray) (kind : ByteArray) (v : Value) (L : List ByteArray) (w : World)
    (hL : L.length ≤ 1048576) (hk : kind.size ≤ maxLen) (hs : ∀ s ∈ L, s.size ≤ maxLen) (hn : n < 1000) (hI : Inv w rb n M) (hv : Has w v L) :
    Calls Trym.prog 9 #[.pointer (some ⟨rb, 0, none⟩), .string kind, v] w (TriedPost rb n M kind L w) := by
  obtain ⟨a, cap, rfl, h⟩ := hv
  rcases hI with ⟨h1, h2, h3⟩ | ⟨B, D, hI⟩
  · rcases h with rfl | ⟨g, off, rfl, hc⟩
    · exact tried_empty_none rb n M kind a cap w hk hn h1 h2 h3
    · exact tried_row_none rb n M kind g off cap L w hL hk hs hn h1 h2 h3 hc
  · rcases h with rfl | ⟨g, off, rfl, hc⟩
    · exact tried_empty_some rb B n D M kind a cap w hk hn hI
    · exact tried_row_some rb B n D M kind g off cap L w hL hk hs hn hI hc
end Go.Proofs.Qxb6602534aMods
