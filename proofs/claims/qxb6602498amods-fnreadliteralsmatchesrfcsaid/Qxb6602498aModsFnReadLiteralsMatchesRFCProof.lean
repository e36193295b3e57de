/- The law FnReadLiteralsMatchesRFC: the frame is the kit's shell (proof-skeleton); the walk goes by the contracts of the texts A to F. -/
import Derived.Test.Qxb6602498aModsRows
import Derived.WalkKit
import Derived.ProofKit
import Derived.OpenShut
import Derived.ShutString
import Derived.ChangeOld
import Derived.Below
import Derived.Test.Qxb6602498aModsF
namespace Go.Proofs.Qxb6602498aMods.fnReadLiteralsMatchesRFC
open Go.ChangeShapes Go.WideShapes Go.ChangeAt Go.RowKit
open Go.ChangeMaps (open_string shut_string)
set_option linter.unusedVariables false

theorem own : ownKnob Trym.prog.godebug = none := by kernel_rfl
theorem laidOut : laidOutB Trym.prog = true := by kernel_rfl

/-- WHAT THE WALK IS TOLD OF A SLICE OF INTEGERS THAT CAME IN: it is nil; or it leads to a row of 'cap' cells, the numbers 'zs' (the first 'len' are its elements, the rest its spare room), each fitting its kind. -/
def IsRow (k : IntKind) (w : World) (a : Option Addr) (len cap : Nat) (zs : List Int) : Prop :=
  (a = none ∧ len = 0 ∧ cap = 0 ∧ zs = []) ∨
  ∃ x, a = some x ∧ len ≤ cap ∧ cap ≤ maxLen ∧ zs.length = cap ∧ (∀ i, i < zs.length → w.cell? (x.add i) = some (.int k (zs.getD i 0))) ∧ ∀ n ∈ zs, (Lit.int k n).wf = true

/-! ### STEP 1: THE WALK -/
theorem bnd (zs : List Int) (hw : ∀ n ∈ zs, (Lit.int .u8 n).wf = true) (i : Nat) : 0 ≤ zs.getD i 0 ∧ zs.getD i 0 ≤ 255 := by
  have := range_u8 hw i
  rw [List.getD_eq_getElem?_getD]
  exact this

set_option maxRecDepth 100000 in
theorem walk_long (a0 : Option Addr) (len0 cap0 : Nat) (w : World) (h : 1048576 < len0) (hm : len0 ≤ maxLen) :
    Calls Trym.prog 3 #[.slice a0 len0 cap0] w fun e w' => e = .returned (.bool true) ∧ Below w.heap.size w w' := by
  go_enter Trym.func3, Trym.ntmps3
  go_wp2_with fail
  refine (zz_no _ _ _ _ h hm).mono ?_
  rintro e w1 ⟨rfl, rfl⟩
  go_wp2
  go_ret
  exact ⟨rfl, Below.refl _ _⟩

set_option maxRecDepth 100000 in
theorem walk_nil (w : World) :
    Calls Trym.prog 3 #[.slice none 0 0] w fun e w' => e = .returned (.bool true) ∧ Below w.heap.size w w' := by
  go_enter Trym.func3, Trym.ntmps3
  go_wp2_with fail
  refine (zz_yes _ _ _ _ (by omega)).mono ?_
  rintro e w1 ⟨rfl, rfl⟩
  go_wp2_with fail
  refine (copy_nil _).mono ?_
  rintro e w1 ⟨rfl, rfl⟩
  go_wp2_with fail
  refine (zz_zero _ _ _).mono ?_
  rintro e w1 ⟨rfl, hb1⟩
  unfold no
  go_wp2_with fail
  refine (rfc_zero _ _ _).mono ?_
  rintro e w2 ⟨rfl, n, rfl⟩
  unfold no
  go_wp2
  go_ret
  exact ⟨rfl, below_drewN hb1 _⟩

set_option maxRecDepth 100000 in
theorem walk_empty (x : Addr) (cap0 : Nat) (w : World) :
    Calls Trym.prog 3 #[.slice (some x) 0 cap0] w fun e w' => e = .returned (.bool true) ∧ Below w.heap.size w w' := by
  go_enter Trym.func3, Trym.ntmps3
  go_wp2_with fail
  refine (zz_yes _ _ _ _ (by omega)).mono ?_
  rintro e w1 ⟨rfl, rfl⟩
  go_wp2_with fail
  refine (copy_empty _ _ _).mono ?_
  rintro e w1 ⟨g, rfl, hb0⟩
  go_wp2_with fail
  refine (zz_zero _ _ _).mono ?_
  rintro e w2 ⟨rfl, hb1⟩
  unfold no
  go_wp2_with fail
  refine (rfc_zero _ _ _).mono ?_
  rintro e w3 ⟨rfl, n, rfl⟩
  unfold no
  go_wp2
  go_ret
  exact ⟨rfl, below_drewN (hb0.trans (hb1.mono hb0.size)) _⟩

set_option maxRecDepth 100000 in
theorem walk_row (b off len0 cap0 : Nat) (z : Nat → Int) (w : World) (h0 : 0 < len0) (hl : len0 ≤ 1048576)
    (hc : ∀ i, i < len0 → w.cell? ⟨b, off + i, none⟩ = some (.int .u8 (z i))) (hz : ∀ i, 0 ≤ z i ∧ z i ≤ 255) :
    Calls Trym.prog 3 #[.slice (some ⟨b, off, none⟩) len0 cap0] w fun e w' => e = .returned (.bool true) ∧ Below w.heap.size w w' := by
  have hl' : ¬ (1048576 : Int) < (len0 : Int) := by omega
  by_cases hn : (len0 : Int) < need z
  · go_enter Trym.func3, Trym.ntmps3
    go_wp2_with fail
    refine (zz_yes _ _ _ _ hl).mono ?_
    rintro e w1 ⟨rfl, rfl⟩
    go_wp2_with fail
    refine (copy_any b off len0 cap0 z _ h0 hl hc).mono ?_
    rintro e w1 ⟨g, rfl, hb0, hc1⟩
    have HC : Hid _ := hc1
    clear hc hc1
    go_wp2_with fail
    refine (zz_short g 0 len0 len0 _ z (by omega) hn hl HC.out hz).mono ?_
    rintro e w2 ⟨rfl, hb1⟩
    unfold no
    have HC2 : Hid (∀ i, i < len0 → w2.cell? ⟨g, 0 + i, none⟩ = some (.int .u8 (z i))) := fun i hi => (hb1.cell (block_lt_of_cell (HC.out i hi))).trans (HC.out i hi)
    go_wp2_with fail
    refine (rfc_short g 0 len0 len0 _ z h0 hn hl HC2.out hz).mono ?_
    rintro e w3 ⟨rfl, n, rfl⟩
    unfold no
    go_wp2
    go_ret
    exact ⟨rfl, below_drewN (hb0.trans (hb1.mono hb0.size)) _⟩
  · have hn' : need z ≤ (len0 : Int) := by omega
    go_enter Trym.func3, Trym.ntmps3
    go_wp2_with fail
    refine (zz_yes _ _ _ _ hl).mono ?_
    rintro e w1 ⟨rfl, rfl⟩
    go_wp2_with fail
    refine (copy_any b off len0 cap0 z _ h0 hl hc).mono ?_
    rintro e w1 ⟨g, rfl, hb0, hc1⟩
    have HC : Hid _ := hc1
    clear hc hc1
    go_wp2_with fail
    refine (zz_full g 0 len0 len0 _ z hn' hl HC.out hz).mono ?_
    rintro e w2 ⟨rfl, hb1⟩
    unfold yes
    have HC2 : Hid (∀ i, i < len0 → w2.cell? ⟨g, 0 + i, none⟩ = some (.int .u8 (z i))) := fun i hi => (hb1.cell (block_lt_of_cell (HC.out i hi))).trans (HC.out i hi)
    go_wp2_with fail
    refine (rfc_full g 0 len0 len0 _ z hn' hl HC2.out hz).mono ?_
    rintro e w3 ⟨rfl, n, rfl⟩
    unfold yes
    go_wp2
    go_ret
    exact ⟨rfl, below_drewN (hb0.trans (hb1.mono hb0.size)) _⟩

theorem walk (a0 : Option Addr) (len0 cap0 : Nat) (z0 : List Int) (w : World) (w0 : IsRow .u8 w a0 len0 cap0 z0) :
    Calls Trym.prog 3 #[.slice a0 len0 cap0] w fun e w' => e = .returned (.bool true) ∧ Below w.heap.size w w' := by
  rcases w0 with ⟨rfl, rfl, rfl, rfl⟩ | ⟨x, rfl, h1, h2, h3, h4, h5⟩
  · exact walk_nil w
  · by_cases hl : 1048576 < len0
    · exact walk_long _ _ _ w hl (by omega)
    · by_cases h0 : len0 = 0
      · subst h0; exact walk_empty x cap0 w
      · obtain ⟨b, off, spot⟩ := x
        have hspot : spot = none := by simpa [Addr.add] using World.cell?_spot (h4 0 (by omega))
        subst hspot
        exact walk_row b off len0 cap0 (fun i => z0.getD i 0) w (by omega) (by omega) (fun i hi => by rw [← add_plain]; exact h4 i (by omega)) (bnd z0 h5)

/-! ### THE ROW's STEP: WRITTEN OUT: LEAVE IT -/
set_option maxRecDepth 100000 in
theorem lifted (os : Os) (started : os.Started) (H : Type) (enc : TypeId × Value → H) :
    ReturnsInHanded {} Trym.checked os 3 .any (Rows.fnReadLiteralsMatchesRFCSpec.pre6 enc Trym.prog Trym.f3 Rows.fnReadLiteralsMatchesRFCRow.domain false) (Rows.fnReadLiteralsMatchesRFCSpec.post enc Trym.prog Trym.f3 false true false false) := by
  refine returnsInHanded_of_change (C := Trym.checked) own started (by kernel_rfl) Trym.func3
    (ChangeSpec.witness6 (enc := enc) (C := Trym.checked) false ⟨#[], #[.slice none 0 0], []⟩ 8 (by kernel_rfl) (by kernel_rfl) (by kernel_rfl) (by kernel_rfl)) ?_
  intro W base args ds gs before hval0 hW hcnd _
  have hval : ∀ (j : Nat) t v, Trym.f3.params[j]? = some t → args[j]? = some v → Value.okWide Trym.prog W .any base t v := hval0
  have hW' := hW
  obtain ⟨p, q, hA0, hV, rfl, hfz, hnd⟩ := hW
  have hA : DataW.TrodAll enc Trym.prog W 0 (fun _ => true) true Trym.f3.params.toList args.toList ds p := hA0
  rw [Trym.params3] at hA hval
  obtain ⟨v0, vs0, d0, ds0, p0, q0, hargs, rfl, rfl, h0, r0⟩ := trodAll_cons hA
  obtain ⟨rfl, rfl, rfl⟩ := trodAll_nil r0
  obtain rfl : args = #[v0] := by cases args; simp_all
  obtain ⟨rfl, rfl⟩ := trodVars_none hV
  obtain ⟨a0, len0, cap0, rfl⟩ := okWide_slice Trym.underlying22 (hval 0 22 v0 rfl rfl)
  have k0 := h0
  have lt0 : ∀ x ∈ p0, x.block < W.heap.size := by obtain ⟨m, hm⟩ := k0; exact DataW.trod_lt m _ _ _ hm
  obtain ⟨z0, w0⟩ : ∃ zs, IsRow .u8 W a0 len0 cap0 zs := by
    obtain ⟨fuel, hf⟩ := h0
    rcases open_ints Trym.underlying22 Trym.underlying5 (by kernel_rfl) hf with ⟨hcs, _⟩ | ⟨x, l, c, zs, hcs, _, hl, hm, hz, _, hcell, hwz⟩
    · simp [Value.cells] at hcs
      obtain ⟨rfl, rfl, rfl⟩ := hcs
      exact ⟨[], .inl ⟨rfl, rfl, rfl, rfl⟩⟩
    · simp [Value.cells] at hcs
      obtain ⟨rfl, rfl, rfl⟩ := hcs
      exact ⟨zs, .inr ⟨_, rfl, hl, hm, by simpa using hz, hcell, hwz⟩⟩
  clear hA0 hval0
  refine (walk a0 len0 cap0 z0 W w0).mono fun e W' ⟨he, bel⟩ => ?_
  subst he
  exact ⟨_, rfl, _, _, _, [], _, [], hW', trodAll_mk1 (shut_bool Trym.underlying4 _), (trodAll_cons_mk (Below.trod laidOut (by kernel_rfl) (of_decide_eq_true (by kernel_rfl)) k0 bel lt0) trodAll_mk0), rfl, bel.frame _, fun h => by cases h⟩

theorem over : Rows.fnReadLiteralsMatchesRFCRow.holds Trym.pinned (OpenSpec.ofChange Rows.fnReadLiteralsMatchesRFCSpec) :=
  OpenClaim.holds_of_wide 3 Trym.f3 rfl rfl rfl rfl rfl rfl rfl ⟨rfl, rfl, rfl, rfl, rfl⟩ rfl rfl rfl rfl rfl (by kernel_rfl) Trym.func3 (by kernel_rfl)
    (of_decide_eq_true (by kernel_rfl)) (by unfold Func.isWrapper; first | (rw [if_pos (by decide +kernel)]; kernel_rfl) | (rw [if_neg (by decide +kernel)]; exact ⟨rfl, rfl⟩))
    (fun os started H enc _ => lifted os started H enc)

/-- The statement. -/
theorem proved : Rows.FnReadLiteralsMatchesRFCSaid := over
#print axioms proved
end Go.Proofs.Qxb6602498aMods.fnReadLiteralsMatchesRFC
