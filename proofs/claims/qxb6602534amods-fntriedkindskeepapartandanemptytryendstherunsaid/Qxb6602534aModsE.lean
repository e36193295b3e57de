/- Seat 534: the walk of (*Recurring).Tried. -/
import Derived.Test.Qxb6602534aModsD
namespace Go.Proofs.Qxb6602534aMods
open Go.ChangeShapes Go.WideShapes Go.ChangeAt Go.RowKit Go.Maps
set_option linter.unusedVariables false

def upd (M : List UInt8 → List ByteArray) (kind : ByteArray) (L : List ByteArray) : List UInt8 → List ByteArray := fun q => if q = kind.data.toList then L else M q
/-- What Tried leaves. -/
def TriedPost (rb n : Nat) (M : List UInt8 → List ByteArray) (kind : ByteArray) (L : List ByteArray) (w : World) (e : Ending) (w' : World) : Prop :=
  ∃ v, e = .returned v ∧ Has w' v (notIn L (M kind.data.toList)) ∧ (notIn L (M kind.data.toList) = [] → v = .slice none 0 0) ∧ Inv w' rb (n + 1) (upd M kind L) ∧ Below rb w w'

theorem run_makeMap_hint (n : Nat) (w : World) : (Instr.makeMap 35 (some (.int .i64 (n : Int)))).run Trym.prog w = .ok (.map (some w.heap.size)) (w.alloc (.map #[] 0)) := by
  simp [Instr.makeMap, run_underlying Trym.underlying35, asInt, Result.andThen]
  rfl

/-- The round's map and the round's row are two blocks. -/
theorem own_ne {w : World} {base b n m : Nat} {v : Value} {xs : List Value} {k : TypeId} {R : Value → Option (DataW Unit × List MemPlace)} {D : DataW Unit} (h : w.ownsRow base 9 1 v n xs) (hm : w.ownsMap Trym.prog k R b m D) : some b ≠ v.ownBlock := by
  obtain ⟨es, clock, hb, _⟩ := hm
  rcases h.2 with ⟨rfl, _⟩ | ⟨g, cap, cur, rfl, _, hg, _⟩
  · intro e; cases e
  · intro e
    cases e
    rw [hg] at hb
    cases hb

theorem InvS.made2 {w : World} {rb n : Nat} {M : List UInt8 → List ByteArray} (h1 : w.cell? ⟨rb, 0, none⟩ = some (.map none)) (h2 : w.frozen? ⟨rb, 0, none⟩ = false) (h3 : ∀ q, M q = []) :
    InvS ((w.setCell ⟨rb, 0, none⟩ (.map (some w.heap.size))).alloc (.map #[] 0)) rb w.heap.size n (.map []) M := by
  have hlt : rb < w.heap.size := block_lt_of_cell h1
  have hz : (w.setCell ⟨rb, 0, none⟩ (.map (some w.heap.size))).heap.size = w.heap.size := by simp
  refine ⟨?_, ?_, hlt, ?_, ?_⟩
  · rw [World.cell?_alloc_lt _ _ _ (by rw [hz]; exact hlt)]; exact World.cell?_setCell_same _ _ _ h1
  · exact (World.frozen?_alloc_past _ rb 0 (by rw [hz]; exact hlt)).trans ((World.frozen?_setCell _ _ _ _).trans h2)
  · have := (World.ownsMap_made (H := Unit) (w.setCell ⟨rb, 0, none⟩ (.map (some w.heap.size))) Trym.prog 9 mapRef).mono (Nat.zero_le n)
    rw [hz] at this
    exact this
  · intro q
    exact ⟨none, rfl, fun _ => h3 q, fun b' e => by cases e⟩

theorem hidden {p : Prop} (h : p) : Hid p := h

set_option maxHeartbeats 2000000 in
theorem tried_row_some (rb B n : Nat) (D : DataW Unit) (M : List UInt8 → List ByteArray) (kind : ByteArray) (g off cap : Nat) (L : List ByteArray) (w : World)
    (hL : L.length ≤ 1048576) (hk : kind.size ≤ maxLen) (hs : ∀ s ∈ L, s.size ≤ maxLen) (hn : n < 1000) (hI : InvS w rb B n D M)
    (hc : ∀ i s, L[i]? = some s → w.cell? ⟨g, off + i, none⟩ = some (.string s)) :
    Calls Trym.prog 9 #[.pointer (some ⟨rb, 0, none⟩), .string kind, .slice (some ⟨g, off, none⟩) L.length cap] w (TriedPost rb n M kind L w) := by
  obtain ⟨i0, hi, hz0, hz1, hz2⟩ := info_parts Trym.info9
  have hmn := fun (w : World) (r : Option Nat) => run_eql_map_nil (P := Trym.prog) w 27 9 35 r Trym.underlying27
  have hmk := run_makeMap_hint
  obtain ⟨mo, hl1, hl2⟩ := hI.look hk
  have hcell := hI.cell
  have hrbw : rb < w.heap.size := block_lt_of_cell hcell
  have hBne : w.heap.size ≠ B := by have := hI.own.lt; omega
  have hrbN : rb < w.heap.size := hrbw
  have HST := hidden (World.ownsMap_made w Trym.prog 9 (plainElem (H := Unit) Trym.prog 4))
  have HB0 := hidden ((Below.refl w.heap.size w).alloc (Nat.le_refl _) (.map #[] 0))
  have HI := hidden hI
  have HA := hidden hc
  have HS := hidden hs
  have HL1 := hidden hl1
  have HL2 := hidden hl2
  clear hI hc hs hl1 hl2
  go_enter Trym.func9, Trym.ntmps9
  go_wp2
  go_loopw [8, 25] (fun v i wr => ∃ k : Nat, k ≤ L.length ∧ i = .int .i64 k ∧ wr.ownsRow w.heap.size 9 1 v (notIn (L.take k) (M kind.data.toList)).length (vals (notIn (L.take k) (M kind.data.toList))) ∧ (notIn (L.take k) (M kind.data.toList) = [] → v = .slice none 0 0) ∧ wr.ownsMap Trym.prog 9 (plainElem (H := Unit) Trym.prog 4) w.heap.size k (setD (L.take k)) ∧ Below w.heap.size w wr) (fun _ i _ => L.length - (intOf i).toNat)
  case atStart => exact ⟨0, Nat.zero_le _, rfl, World.ownsRow_nil _ _ _ _, fun _ => rfl, HST.out, HB0.out⟩
  case round =>
    obtain ⟨k, hkl, rfl, hown, hnil, hmap, hb⟩ := hrel
    have hbW : Below w.heap.size w wr := hb
    have hNs : w.heap.size ≤ wr.heap.size := hb.size
    have hcr : wr.cell? ⟨rb, 0, none⟩ = some (.map (some B)) := (hbW.cell (by exact hrbw)).trans hcell
    by_cases hlt : k < L.length
    · have hc := HA.out
      obtain ⟨s, hs⟩ : ∃ s, L[k]? = some s := ⟨_, List.getElem?_eq_getElem hlt⟩
      have c1 : wr.cell? ⟨g, off + k, none⟩ = some (.string s) := (hbW.cell (block_lt_of_cell (hc k s hs))).trans (hc k s hs)
      have hsz : s.size ≤ maxLen := HS.out s (List.mem_of_getElem? hs)
      have hts := take_snoc hs
      have hkn : (notIn (L.take k) (M kind.data.toList)).length ≤ k := Nat.le_trans (notIn_len _ _) (by simp; omega)
      have e1 := HL1.out wr hbW
      have e2 := HL2.out wr s hbW hsz
      have hsd : setD (L.take (k + 1)) = (setD (L.take k)).put (keyL s) (.lit (.bool true)) := by rw [hts, setD_snoc]
      have HSD := hidden (hsd)
      have HN := hidden (hnil)
      have HSZ := hidden (hsz)
      cases hq : memb s (M kind.data.toList)
      · have hsn : notIn (L.take (k + 1)) (M kind.data.toList) = notIn (L.take k) (M kind.data.toList) ++ [s] := by rw [hts, notIn_yes _ _ _ hq]
        have HSN := hidden (hsn)
        rw [hq] at e2
        clear hsn hsd hts hs hc hnil hq hsz
        generalize notIn (L.take k) (M kind.data.toList) = K at *
        generalize setD (L.take k) = SD at *
        go_wp2_with (at_builtin; refine wpList_append_own _ rfl _ _ 22 rfl w.heap.size 9 i0 (.string ByteArray.empty) 1 16 Trym.underlying22 hi hz0 hz1 hz2 rfl (by decide) _ _ _ rfl (hown.alloc _) ⟨_, 0, none⟩ 1 1 [.string s] rfl rfl (cell_one_new _ _ _) (str_oneCell s) ?c3 ?c4 ?c5 ?_)
        case c3 => unfold maxLen; omega
        case c4 => omega
        case c5 => simp; omega
        intro v' w2 hown2 hgrow2 hnn
        have hb2 := (hb.alloc hNs (.cells #[Value.string s] 9)).grown hgrow2 (by simp; omega) (own_block_ge hown)
        have hmap2 := (hmap.alloc (.cells #[Value.string s] 9)).kept hgrow2 (own_ne hown hmap)
        have HO := hidden (hown2)
        clear hown2 hgrow2 hown hb hbW hmap c1 e1 e2 hcr
        go_wp2_with (at_mapUpdate; refine wpList_mapUpdate_own _ rfl _ _ _ 35 rfl 9 4 law9 Trym.underlying35 _ w.heap.size k _ rfl hmap2 ?d1 _ _ _ rfl rfl (key9 HSZ.out) _ [] (plainElem_bool Trym.underlying4 true) ?_)
        case d1 => unfold maxLen; omega
        intro w3 hmap3 hgrow3
        have hb3 := hb2.grown hgrow3 (hb2.size) (fun j hj => by cases hj; exact Nat.le_refl _)
        have HO3 := hidden (HO.out.kept hgrow3 (.inr (fun e => own_ne HO.out hmap2 e.symm)))
        have HM3 := hidden (hmap3)
        clear hmap3 hgrow3 hmap2 hb2 HO
        go_wp2
        go_roundw
        case rel =>
          have A1 : w3.ownsRow w.heap.size 9 1 v' (notIn (L.take (k + 1)) (M kind.data.toList)).length (vals (notIn (L.take (k + 1)) (M kind.data.toList))) := by rw [HSN.out, vals_snoc, List.length_append]; exact HO3.out
          have A2 : notIn (L.take (k + 1)) (M kind.data.toList) = [] → v' = .slice none 0 0 := fun h => by rw [HSN.out] at h; simp at h
          have A3 : w3.ownsMap Trym.prog 9 (plainElem (H := Unit) Trym.prog 4) w.heap.size (k + 1) (setD (L.take (k + 1))) := by rw [HSD.out]; exact HM3.out
          first
            | exact ⟨k + 1, by omega, by go_num, A1, A2, A3, hb3⟩
            | ((repeat apply Exists.intro); exact ⟨⟨k + 1, by omega, by go_num, A1, A2, A3, hb3⟩, rfl⟩)
        case measure => simp [intOf]; omega
      · have hsn : notIn (L.take (k + 1)) (M kind.data.toList) = notIn (L.take k) (M kind.data.toList) := by rw [hts, notIn_no _ _ _ hq]
        have HSN := hidden (hsn)
        rw [hq] at e2
        clear hsn hsd hts hs hc hnil hq hsz
        generalize notIn (L.take k) (M kind.data.toList) = K at *
        generalize setD (L.take k) = SD at *
        go_wp2_with (at_mapUpdate; refine wpList_mapUpdate_own _ rfl _ _ _ 35 rfl 9 4 law9 Trym.underlying35 _ w.heap.size k _ rfl hmap ?d1 _ _ _ rfl rfl (key9 HSZ.out) _ [] (plainElem_bool Trym.underlying4 true) ?_)
        case d1 => unfold maxLen; omega
        intro w3 hmap3 hgrow3
        have hb3 := hb.grown hgrow3 hNs (fun j hj => by cases hj; exact Nat.le_refl _)
        have HO3 := hidden (hown.kept hgrow3 (.inr (fun e => own_ne hown hmap e.symm)))
        have HM3 := hidden (hmap3)
        clear hmap3 hgrow3 hmap hb hbW hown c1 e1 e2 hcr
        go_wp2
        go_roundw
        case rel =>
          have A1 : w3.ownsRow w.heap.size 9 1 u8 (notIn (L.take (k + 1)) (M kind.data.toList)).length (vals (notIn (L.take (k + 1)) (M kind.data.toList))) := by rw [HSN.out]; exact HO3.out
          have A2 : notIn (L.take (k + 1)) (M kind.data.toList) = [] → u8 = .slice none 0 0 := fun h => by rw [HSN.out] at h; exact HN.out h
          have A3 : w3.ownsMap Trym.prog 9 (plainElem (H := Unit) Trym.prog 4) w.heap.size (k + 1) (setD (L.take (k + 1))) := by rw [HSD.out]; exact HM3.out
          first
            | exact ⟨k + 1, by omega, by go_num, A1, A2, A3, hb3⟩
            | ((repeat apply Exists.intro); exact ⟨⟨k + 1, by omega, by go_num, A1, A2, A3, hb3⟩, rfl⟩)
        case measure => simp [intOf]; omega
    · have hke : L.take k = L := List.take_of_length_le (by omega)
      rw [hke] at hown hnil hmap
      have HN := hidden (hnil)
      have HIr := hidden (HI.out.below hbW)
      clear hke hnil
      go_wp2_with (at_mapUpdate; refine wpList_mapUpdate_own _ rfl _ _ _ 27 rfl 9 35 law9 Trym.underlying27 mapRef B n D rfl HIr.out.own ?d2 _ _ _ rfl rfl (key9 hk) (refD (some w.heap.size)) [] rfl ?_)
      case d2 => unfold maxLen; omega
      intro w3 hmap3 hgrow3
      have hfin : TriedPost rb n M kind L w (.returned u8) w3 := by
        refine ⟨u8, rfl, has_of_owns (hown.kept hgrow3 (.inr (fun e => own_ne hown HIr.out.own e.symm))), HN.out, .inr ⟨B, _, HIr.out.put hmap hrbN hBne hmap3 hgrow3⟩, ?_⟩
        exact (hb.mono (Nat.le_of_lt hrbN)).grown hgrow3 (Nat.le_trans (Nat.le_of_lt hrbN) hNs) (fun j hj => by cases hj; exact Nat.le_of_lt HI.out.lt)
      clear hmap3 hgrow3 hown hmap hb hbW hcr
      go_wp2
      go_ret
      exact hfin

set_option maxHeartbeats 2000000 in
theorem tried_row_none (rb n : Nat) (M : List UInt8 → List ByteArray) (kind : ByteArray) (g off cap : Nat) (L : List ByteArray) (w : World)
    (hL : L.length ≤ 1048576) (hk : kind.size ≤ maxLen) (hs : ∀ s ∈ L, s.size ≤ maxLen) (hn : n < 1000)
    (h1 : w.cell? ⟨rb, 0, none⟩ = some (.map none)) (h2 : w.frozen? ⟨rb, 0, none⟩ = false) (h3 : ∀ q, M q = [])
    (hc : ∀ i s, L[i]? = some s → w.cell? ⟨g, off + i, none⟩ = some (.string s)) :
    Calls Trym.prog 9 #[.pointer (some ⟨rb, 0, none⟩), .string kind, .slice (some ⟨g, off, none⟩) L.length cap] w (TriedPost rb n M kind L w) := by
  obtain ⟨i0, hi, hz0, hz1, hz2⟩ := info_parts Trym.info9
  have hmn := fun (w : World) (r : Option Nat) => run_eql_map_nil (P := Trym.prog) w 27 9 35 r Trym.underlying27
  have hmk := run_makeMap_hint
  have hmm := @run_makeMap Trym.prog
  have hrb0 : rb < w.heap.size := block_lt_of_cell h1
  have hz0' : (w.setCell ⟨rb, 0, none⟩ (.map (some w.heap.size))).heap.size = w.heap.size := by simp
  obtain ⟨w1, hw1⟩ : ∃ w1, w1 = (w.setCell ⟨rb, 0, none⟩ (.map (some w.heap.size))).alloc (.map #[] 0) := ⟨_, rfl⟩
  have hI : InvS w1 rb w.heap.size n (.map []) M := by rw [hw1]; exact InvS.made2 h1 h2 h3
  have hbel : Below rb w w1 := by rw [hw1]; exact ((Below.refl _ _).setCell (Nat.le_refl _) _).alloc (by rw [hz0']; exact Nat.le_of_lt hrb0) _
  have hc1 : ∀ i s, L[i]? = some s → w1.cell? ⟨g, off + i, none⟩ = some (.string s) := by
    intro i s hi
    have hcs := hc i s hi
    have hne : (⟨rb, 0, none⟩ : Addr) ≠ ⟨g, off + i, none⟩ := fun e => by rw [← e, h1] at hcs; cases hcs
    rw [hw1, World.cell?_alloc_lt _ _ _ (by simpa using block_lt_of_cell hcs), World.cell?_setCell_other _ _ _ _ hne]
    exact hcs
  have hz1 : w1.heap.size = w.heap.size + 1 := by rw [hw1]; simp
  have HW := hidden hw1
  clear hw1
  obtain ⟨mo, hl1, hl2⟩ := hI.look hk
  have hcell := hI.cell
  have hrbw : rb < w1.heap.size := block_lt_of_cell hcell
  have hBne : w.heap.size + 1 ≠ w.heap.size := by omega
  have hrbN : rb < w.heap.size + 1 := by omega
  have HZ := hidden hz1
  have HST : Hid ((w1.alloc (.map #[] 0)).ownsMap Trym.prog 9 (plainElem (H := Unit) Trym.prog 4) (w.heap.size + 1) 0 (setD [])) := by rw [← hz1]; exact World.ownsMap_made w1 Trym.prog 9 _
  have HB0 : Hid (Below (w.heap.size + 1) w1 (w1.alloc (.map #[] 0))) := (Below.refl _ _).alloc (Nat.le_of_eq hz1.symm) _
  have HI := hidden hI
  have HA := hidden hc1
  have HS := hidden hs
  have HL1 := hidden hl1
  have HL2 := hidden hl2
  clear hI hc hc1 hs hl1 hl2 hz1 hz0'
  go_enter Trym.func9, Trym.ntmps9
  go_wp2
  rw [← HW.out]
  go_loopw [8, 25] (fun v i wr => ∃ k : Nat, k ≤ L.length ∧ i = .int .i64 k ∧ wr.ownsRow (w.heap.size + 1) 9 1 v (notIn (L.take k) (M kind.data.toList)).length (vals (notIn (L.take k) (M kind.data.toList))) ∧ (notIn (L.take k) (M kind.data.toList) = [] → v = .slice none 0 0) ∧ wr.ownsMap Trym.prog 9 (plainElem (H := Unit) Trym.prog 4) (w.heap.size + 1) k (setD (L.take k)) ∧ Below (w.heap.size + 1) w1 wr) (fun _ i _ => L.length - (intOf i).toNat)
  case atStart => exact ⟨0, Nat.zero_le _, rfl, World.ownsRow_nil _ _ _ _, fun _ => rfl, HST.out, HB0.out⟩
  case round =>
    obtain ⟨k, hkl, rfl, hown, hnil, hmap, hb⟩ := hrel
    have hbW : Below w1.heap.size w1 wr := by rw [HZ.out]; exact hb
    have hNs : (w.heap.size + 1) ≤ wr.heap.size := Nat.le_trans (Nat.le_of_eq HZ.out.symm) hb.size
    have hcr : wr.cell? ⟨rb, 0, none⟩ = some (.map (some w.heap.size)) := (hbW.cell (by exact hrbw)).trans hcell
    by_cases hlt : k < L.length
    · have hc := HA.out
      obtain ⟨s, hs⟩ : ∃ s, L[k]? = some s := ⟨_, List.getElem?_eq_getElem hlt⟩
      have c1 : wr.cell? ⟨g, off + k, none⟩ = some (.string s) := (hbW.cell (block_lt_of_cell (hc k s hs))).trans (hc k s hs)
      have hsz : s.size ≤ maxLen := HS.out s (List.mem_of_getElem? hs)
      have hts := take_snoc hs
      have hkn : (notIn (L.take k) (M kind.data.toList)).length ≤ k := Nat.le_trans (notIn_len _ _) (by simp; omega)
      have e1 := HL1.out wr hbW
      have e2 := HL2.out wr s hbW hsz
      have hsd : setD (L.take (k + 1)) = (setD (L.take k)).put (keyL s) (.lit (.bool true)) := by rw [hts, setD_snoc]
      have HSD := hidden (hsd)
      have HN := hidden (hnil)
      have HSZ := hidden (hsz)
      cases hq : memb s (M kind.data.toList)
      · have hsn : notIn (L.take (k + 1)) (M kind.data.toList) = notIn (L.take k) (M kind.data.toList) ++ [s] := by rw [hts, notIn_yes _ _ _ hq]
        have HSN := hidden (hsn)
        rw [hq] at e2
        clear hsn hsd hts hs hc hnil hq hsz
        generalize notIn (L.take k) (M kind.data.toList) = K at *
        generalize setD (L.take k) = SD at *
        go_wp2_with (at_builtin; refine wpList_append_own _ rfl _ _ 22 rfl (w.heap.size + 1) 9 i0 (.string ByteArray.empty) 1 16 Trym.underlying22 hi hz0 hz1 hz2 rfl (by decide) _ _ _ rfl (hown.alloc _) ⟨_, 0, none⟩ 1 1 [.string s] rfl rfl (cell_one_new _ _ _) (str_oneCell s) ?c3 ?c4 ?c5 ?_)
        case c3 => unfold maxLen; omega
        case c4 => omega
        case c5 => simp; omega
        intro v' w2 hown2 hgrow2 hnn
        have hb2 := (hb.alloc hNs (.cells #[Value.string s] 9)).grown hgrow2 (by simp; omega) (own_block_ge hown)
        have hmap2 := (hmap.alloc (.cells #[Value.string s] 9)).kept hgrow2 (own_ne hown hmap)
        have HO := hidden (hown2)
        clear hown2 hgrow2 hown hb hbW hmap c1 e1 e2 hcr
        go_wp2_with (at_mapUpdate; refine wpList_mapUpdate_own _ rfl _ _ _ 35 rfl 9 4 law9 Trym.underlying35 _ (w.heap.size + 1) k _ rfl hmap2 ?d1 _ _ _ rfl rfl (key9 HSZ.out) _ [] (plainElem_bool Trym.underlying4 true) ?_)
        case d1 => unfold maxLen; omega
        intro w3 hmap3 hgrow3
        have hb3 := hb2.grown hgrow3 (Nat.le_trans (Nat.le_of_eq HZ.out.symm) hb2.size) (fun j hj => by cases hj; exact Nat.le_refl _)
        have HO3 := hidden (HO.out.kept hgrow3 (.inr (fun e => own_ne HO.out hmap2 e.symm)))
        have HM3 := hidden (hmap3)
        clear hmap3 hgrow3 hmap2 hb2 HO
        go_wp2
        go_roundw
        case rel =>
          have A1 : w3.ownsRow (w.heap.size + 1) 9 1 v' (notIn (L.take (k + 1)) (M kind.data.toList)).length (vals (notIn (L.take (k + 1)) (M kind.data.toList))) := by rw [HSN.out, vals_snoc, List.length_append]; exact HO3.out
          have A2 : notIn (L.take (k + 1)) (M kind.data.toList) = [] → v' = .slice none 0 0 := fun h => by rw [HSN.out] at h; simp at h
          have A3 : w3.ownsMap Trym.prog 9 (plainElem (H := Unit) Trym.prog 4) (w.heap.size + 1) (k + 1) (setD (L.take (k + 1))) := by rw [HSD.out]; exact HM3.out
          first
            | exact ⟨k + 1, by omega, by go_num, A1, A2, A3, hb3⟩
            | ((repeat apply Exists.intro); exact ⟨⟨k + 1, by omega, by go_num, A1, A2, A3, hb3⟩, rfl⟩)
        case measure => simp [intOf]; omega
      · have hsn : notIn (L.take (k + 1)) (M kind.data.toList) = notIn (L.take k) (M kind.data.toList) := by rw [hts, notIn_no _ _ _ hq]
        have HSN := hidden (hsn)
        rw [hq] at e2
        clear hsn hsd hts hs hc hnil hq hsz
        generalize notIn (L.take k) (M kind.data.toList) = K at *
        generalize setD (L.take k) = SD at *
        go_wp2_with (at_mapUpdate; refine wpList_mapUpdate_own _ rfl _ _ _ 35 rfl 9 4 law9 Trym.underlying35 _ (w.heap.size + 1) k _ rfl hmap ?d1 _ _ _ rfl rfl (key9 HSZ.out) _ [] (plainElem_bool Trym.underlying4 true) ?_)
        case d1 => unfold maxLen; omega
        intro w3 hmap3 hgrow3
        have hb3 := hb.grown hgrow3 hNs (fun j hj => by cases hj; exact Nat.le_refl _)
        have HO3 := hidden (hown.kept hgrow3 (.inr (fun e => own_ne hown hmap e.symm)))
        have HM3 := hidden (hmap3)
        clear hmap3 hgrow3 hmap hb hbW hown c1 e1 e2 hcr
        go_wp2
        go_roundw
        case rel =>
          have A1 : w3.ownsRow (w.heap.size + 1) 9 1 u8 (notIn (L.take (k + 1)) (M kind.data.toList)).length (vals (notIn (L.take (k + 1)) (M kind.data.toList))) := by rw [HSN.out]; exact HO3.out
          have A2 : notIn (L.take (k + 1)) (M kind.data.toList) = [] → u8 = .slice none 0 0 := fun h => by rw [HSN.out] at h; exact HN.out h
          have A3 : w3.ownsMap Trym.prog 9 (plainElem (H := Unit) Trym.prog 4) (w.heap.size + 1) (k + 1) (setD (L.take (k + 1))) := by rw [HSD.out]; exact HM3.out
          first
            | exact ⟨k + 1, by omega, by go_num, A1, A2, A3, hb3⟩
            | ((repeat apply Exists.intro); exact ⟨⟨k + 1, by omega, by go_num, A1, A2, A3, hb3⟩, rfl⟩)
        case measure => simp [intOf]; omega
    · have hke : L.take k = L := List.take_of_length_le (by omega)
      rw [hke] at hown hnil hmap
      have HN := hidden (hnil)
      have HIr := hidden (HI.out.below hbW)
      clear hke hnil
      go_wp2_with (at_mapUpdate; refine wpList_mapUpdate_own _ rfl _ _ _ 27 rfl 9 35 law9 Trym.underlying27 mapRef w.heap.size n (.map []) rfl HIr.out.own ?d2 _ _ _ rfl rfl (key9 hk) (refD (some (w.heap.size + 1))) [] rfl ?_)
      case d2 => unfold maxLen; omega
      intro w3 hmap3 hgrow3
      have hfin : TriedPost rb n M kind L w (.returned u8) w3 := by
        refine ⟨u8, rfl, has_of_owns (hown.kept hgrow3 (.inr (fun e => own_ne hown HIr.out.own e.symm))), HN.out, .inr ⟨w.heap.size, _, HIr.out.put hmap hrbN hBne hmap3 hgrow3⟩, ?_⟩
        exact (hbel.trans (hb.mono (Nat.le_of_lt hrbN))).grown hgrow3 (Nat.le_trans (Nat.le_of_lt hrbN) hNs) (fun j hj => by cases hj; exact Nat.le_of_lt HI.out.lt)
      clear hmap3 hgrow3 hown hmap hb hbW hcr
      go_wp2
      go_ret
      exact hfin
end Go.Proofs.Qxb6602534aMods
