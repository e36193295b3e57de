/- Seat 534: what a Recurring holds ('Inv'), told of its maps. -/
import Derived.Test.Qxb6602534aModsC
import Derived.Maps.OwnSet
import Derived.Maps.OwnOps
namespace Go.Proofs.Qxb6602534aMods
open Go.ChangeShapes Go.WideShapes Go.ChangeAt Go.RowKit Go.Maps
set_option linter.unusedVariables false

/-! ### A set of lines as a map's datum -/
def keyL (s : ByteArray) : Lit := .string s.data.toList
def setD (L : List ByteArray) : DataW Unit := Maps.setOf (.lit (.bool true)) (L.map keyL)
theorem key_keyL (s : ByteArray) : WideAt.IsKeyLit (keyL s) := trivial
theorem setD_snoc (L : List ByteArray) (s : ByteArray) : setD (L ++ [s]) = (setD L).put (keyL s) (.lit (.bool true)) := by
  unfold setD
  rw [List.map_append, List.map_singleton, Maps.setOf_snoc]
theorem isMap_setD (L : List ByteArray) : Maps.IsMap (setD L) := (Maps.tidy_setOf _ _ (fun x hx => by
  obtain ⟨s, _, rfl⟩ := List.mem_map.1 hx
  exact key_keyL s)).isMap
theorem keyL_eq (x y : ByteArray) : (x.toList == y.toList) = true ↔ keyL x = keyL y := by
  rw [ByteArray.toList_eq, ByteArray.toList_eq]
  simp [keyL]
theorem memb_snoc (x y : ByteArray) (L : List ByteArray) : memb x (L ++ [y]) = (memb x L || (y.toList == x.toList)) := by
  simp [memb]
theorem atKey_setD (x : ByteArray) (L : List ByteArray) : (setD L).atKey (keyL x) (.lit (.bool false)) = .lit (.bool (memb x L)) := by
  have gen : ∀ (n : Nat) (L : List ByteArray), L.length = n → (setD L).atKey (keyL x) (.lit (.bool false)) = .lit (.bool (memb x L)) := by
    intro n
    induction n with
    | zero =>
      intro L hL
      have : L = [] := List.eq_nil_of_length_eq_zero hL
      subst this
      rfl
    | succ n ih =>
      intro L hL
      obtain ⟨L', y, rfl⟩ : ∃ L' y, L = L' ++ [y] := ⟨L.dropLast, L.getLast (by intro e; rw [e] at hL; simp at hL), (List.dropLast_concat_getLast _).symm⟩
      rw [setD_snoc, memb_snoc]
      cases hq : (y.toList == x.toList)
      · have hne : keyL x ≠ keyL y := fun e => by
          have := (keyL_eq y x).2 e.symm
          rw [this] at hq; cases hq
        rw [Maps.atKey_put_other hne, ih L' (by simpa using hL), Bool.or_false]
      · rw [(keyL_eq y x).1 hq, Maps.atKey_put_same (isMap_setD L') (key_keyL x), Bool.or_true]
  exact gen _ L rfl

/-! ### References to maps as data -/
def refD : Option Nat → DataW Unit
  | none => .nil
  | some b => .lit (.int .i64 (b : Int))
def mapRef : Value → Option (DataW Unit × List MemPlace)
  | .map mo => some (refD mo, [])
  | _ => none
theorem refD_inj {a b : Option Nat} (h : refD a = refD b) : a = b := by
  cases a <;> cases b <;> simp [refD] at h
  · rfl
  · exact congrArg some (by omega)
theorem mapRef_inv {v : Value} {mo : Option Nat} {ps : List MemPlace} (h : mapRef v = some (refD mo, ps)) : v = .map mo := by
  cases v <;> simp [mapRef] at h
  rw [refD_inj h.1]
theorem plainElem_bool_inv {v : Value} {x : Bool} {ps : List MemPlace} (h : plainElem (H := Unit) Trym.prog 4 v = some (.lit (.bool x), ps)) : v = .bool x := by
  unfold plainElem at h
  rw [Trym.underlying4] at h
  cases v <;> simp at h
  rw [h.1]

theorem law9 : Keyed Trym.prog 9 := string_keyed Trym.underlying9
theorem key9 {s : ByteArray} (h : s.size ≤ maxLen) : keyOf Trym.prog 9 (.string s) = some (keyL s) := WideMaps.keyOf_string_mk Trym.underlying9 h
theorem zero35 (w : World) : (zeroValue 35).run Trym.prog w = .ok (.map none) w := by kernel_rfl
theorem zero4 (w : World) : (zeroValue 4).run Trym.prog w = .ok (.bool false) w := by kernel_rfl

/-! ### What a Recurring holds -/
/-- Its map is made: block B. -/
structure InvS (w : World) (rb B n : Nat) (D : DataW Unit) (M : List UInt8 → List ByteArray) : Prop where
  cell : w.cell? ⟨rb, 0, none⟩ = some (.map (some B))
  free : w.frozen? ⟨rb, 0, none⟩ = false
  lt : rb < B
  own : w.ownsMap Trym.prog 9 mapRef B n D
  at_ : ∀ q, ∃ mo, D.atKey (.string q) .nil = refD mo ∧ (mo = none → M q = []) ∧ ∀ b', mo = some b' → rb < b' ∧ b' ≠ B ∧ ∃ m, w.ownsMap Trym.prog 9 (plainElem Trym.prog 4) b' m (setD (M q))

def Inv (w : World) (rb n : Nat) (M : List UInt8 → List ByteArray) : Prop :=
  (w.cell? ⟨rb, 0, none⟩ = some (.map none) ∧ w.frozen? ⟨rb, 0, none⟩ = false ∧ ∀ q, M q = []) ∨ ∃ B D, InvS w rb B n D M

theorem owns_block {w w' : World} {k : TypeId} {R : Value → Option (DataW Unit × List MemPlace)} {b n : Nat} {D : DataW Unit} (h : w.ownsMap Trym.prog k R b n D) (e : w'.heap[b]? = w.heap[b]?) : w'.ownsMap Trym.prog k R b n D := by
  obtain ⟨es, clock, hb, rest⟩ := h
  exact ⟨es, clock, e.trans hb, rest⟩

theorem InvS.below {w w' : World} {rb B n : Nat} {D : DataW Unit} {M : List UInt8 → List ByteArray} (h : InvS w rb B n D M) (hb : Below w.heap.size w w') : InvS w' rb B n D M where
  cell := (hb.cell (block_lt_of_cell h.cell)).trans h.cell
  free := (hb.frozen (block_lt_of_cell h.cell)).trans h.free
  lt := h.lt
  own := owns_block h.own (hb.block _ h.own.lt)
  at_ := fun q => by
    obtain ⟨mo, h1, h2, h3⟩ := h.at_ q
    refine ⟨mo, h1, h2, fun b' e => ?_⟩
    obtain ⟨g1, g2, m, g3⟩ := h3 b' e
    exact ⟨g1, g2, m, owns_block g3 (hb.block _ g3.lt)⟩

theorem Inv.below {w w' : World} {rb n : Nat} {M : List UInt8 → List ByteArray} (h : Inv w rb n M) (hb : Below w.heap.size w w') : Inv w' rb n M := by
  rcases h with ⟨h1, h2, h3⟩ | ⟨B, D, h⟩
  · exact .inl ⟨(hb.cell (block_lt_of_cell h1)).trans h1, (hb.frozen (block_lt_of_cell h1)).trans h2, h3⟩
  · exact .inr ⟨B, D, h.below hb⟩

/-- The two look-ups of a round: 'r.met[kind]', then '[line]'. -/
theorem InvS.look {w : World} {rb B n : Nat} {D : DataW Unit} {M : List UInt8 → List ByteArray} (h : InvS w rb B n D M) {kind : ByteArray} (hk : kind.size ≤ maxLen) :
    ∃ mo, (∀ w', Below w.heap.size w w' → (Instr.lookup 27 (.map (some B)) (.string kind) false).run Trym.prog w' = .ok (.map mo) w') ∧
      ∀ (w' : World) (s : ByteArray), Below w.heap.size w w' → s.size ≤ maxLen → (Instr.lookup 35 (.map mo) (.string s) false).run Trym.prog w' = .ok (.bool (memb s (M kind.data.toList))) w' := by
  obtain ⟨mo, h1, h2, h3⟩ := h.at_ kind.data.toList
  refine ⟨mo, fun w' hb => ?_, fun w' s hb hs => ?_⟩
  · obtain ⟨v, ps, hrun, hv⟩ := (h.below hb).own.lookup law9 Trym.underlying27 (zero35 w') (zd := .nil) (zp := []) rfl (key9 hk)
    have e : D.atKey (keyL kind) .nil = refD mo := h1
    rw [e] at hv
    rw [hrun, mapRef_inv hv]
  · cases mo with
    | none =>
      rw [h2 rfl]
      exact Maps.look_nil false law9 Trym.underlying35 (zero4 w') (key9 hs)
    | some b' =>
      obtain ⟨g1, g2, m, g3⟩ := h3 b' rfl
      obtain ⟨v, ps, hrun, hv⟩ := (owns_block g3 (hb.block _ g3.lt)).lookup law9 Trym.underlying35 (zero4 w') (plainElem_bool Trym.underlying4 false) (key9 hs)
      rw [atKey_setD] at hv
      rw [hrun, plainElem_bool_inv hv]

/-- 'r.met = make(..)'. -/
theorem InvS.made {w : World} {rb n : Nat} {M : List UInt8 → List ByteArray} (h1 : w.cell? ⟨rb, 0, none⟩ = some (.map none)) (h2 : w.frozen? ⟨rb, 0, none⟩ = false) (h3 : ∀ q, M q = []) :
    InvS ((w.alloc (.map #[] 0)).setCell ⟨rb, 0, none⟩ (.map (some w.heap.size))) rb w.heap.size n (.map []) M := by
  have hlt : rb < w.heap.size := block_lt_of_cell h1
  have hc : (w.alloc (.map #[] 0)).cell? ⟨rb, 0, none⟩ = some (.map none) := (World.cell?_alloc_lt w _ _ (by exact hlt)).trans h1
  refine ⟨?_, ?_, hlt, ?_, ?_⟩
  · exact World.cell?_setCell_same _ _ _ hc
  · exact (World.frozen?_setCell _ _ _ _).trans ((World.frozen?_alloc_past _ rb 0 hlt).trans h2)
  · exact ((World.ownsMap_made w _ _ _).mono (Nat.zero_le _)).setCell (by show w.heap.size ≠ rb; omega) _
  · intro q
    exact ⟨none, rfl, fun _ => h3 q, fun b' e => by cases e⟩

/-- 'r.met[kind] = met'. -/
theorem InvS.put {w w' : World} {rb B n m0 m : Nat} {D : DataW Unit} {M : List UInt8 → List ByteArray} (h : InvS w rb B n D M) {kind : ByteArray} {L : List ByteArray}
    (hm : w.ownsMap Trym.prog 9 (plainElem Trym.prog 4) m0 m (setD L)) (hlt : rb < m0) (hne : m0 ≠ B)
    (ho : w'.ownsMap Trym.prog 9 mapRef B (n + 1) (D.put (keyL kind) (refD (some m0)))) (hg : w.grownBy w' (some B)) :
    InvS w' rb B (n + 1) (D.put (keyL kind) (refD (some m0))) (fun q => if q = kind.data.toList then L else M q) := by
  have hrb : rb < w.heap.size := block_lt_of_cell h.cell
  have hB := h.lt
  have eb : w'.heap[rb]? = w.heap[rb]? := hg.block rb hrb (by intro e; cases e; omega)
  refine ⟨(World.cell?_of_block (w := w) eb).trans h.cell, (World.frozen?_of_block (w := w) eb).trans h.free, hB, ho, fun q => ?_⟩
  by_cases hq : q = kind.data.toList
  · subst hq
    refine ⟨some m0, Maps.atKey_put_same h.own.isMap (key_keyL kind) _ _, (fun e => by cases e), ?_⟩
    rintro b' e
    cases e
    refine ⟨hlt, hne, m, ?_⟩
    simp only [if_true]
    exact hm.kept hg (by intro e; cases e; exact hne rfl)
  · obtain ⟨mo, h1, h2, h3⟩ := h.at_ q
    have hk : (Lit.string q) ≠ keyL kind := fun e => hq (by unfold keyL at e; injection e)
    refine ⟨mo, (Maps.atKey_put_other hk _ _).trans h1, ?_, ?_⟩
    · simp only [if_neg hq]; exact h2
    · intro b' e
      obtain ⟨g1, g2, m', g3⟩ := h3 b' e
      simp only [if_neg hq]
      exact ⟨g1, g2, m', g3.kept hg (by intro e'; cases e'; exact g2 rfl)⟩
end Go.Proofs.Qxb6602534aMods
