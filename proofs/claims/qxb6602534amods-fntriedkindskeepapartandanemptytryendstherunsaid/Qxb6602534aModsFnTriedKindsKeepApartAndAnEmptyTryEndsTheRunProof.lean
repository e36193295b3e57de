/- The law FnTriedKindsKeepApartAndAnEmptyTryEndsTheRun: the row's step, after the kit's shells (proof-skeleton), turned to two strings and three slices of strings; the walk: text H. -/
import Derived.Test.Qxb6602534aModsRows
import Derived.WalkKit
import Derived.ProofKit
import Derived.OpenShut
import Derived.ShutString
import Derived.SliceStrings
import Derived.ChangeOld
import Derived.Below
import Derived.Test.Qxb6602534aModsH
namespace Go.Proofs.Qxb6602534aMods.fnTriedKindsKeepApartAndAnEmptyTryEndsTheRun
open Go.ChangeShapes Go.WideShapes Go.ChangeAt Go.RowKit
open Go.ChangeMaps (open_string shut_string)
set_option linter.unusedVariables false

theorem own : ownKnob Trym.prog.godebug = none := by kernel_rfl
theorem laidOut : laidOutB Trym.prog = true := by kernel_rfl
theorem cells9 : Trym.prog.cellsOf 9 = 1 := by kernel_rfl

/-- A slice of strings that came in, opened. -/
theorem has_open {H : Type} {enc : TypeId × Value → H} {W : World} {a : Option Addr} {len cap : Nat} {d : DataW H} {p : List MemPlace} (h : DataW.Trod enc Trym.prog W 0 (fun _ => true) true 22 (.slice a len cap) d p) :
    ∃ L, Has W (.slice a len cap) L ∧ ∀ s ∈ L, s.size ≤ maxLen := by
  obtain ⟨fuel, hf⟩ := h
  rcases open_strings Trym.underlying22 Trym.underlying9 cells9 hf with ⟨hcs, _⟩ | ⟨x, l, c, ss, hcs, _, hl, hm, hz, _, hcell, hws⟩
  · simp [Value.cells] at hcs
    obtain ⟨rfl, rfl, rfl⟩ := hcs
    exact ⟨[], ⟨none, 0, rfl, .inl rfl⟩, fun s hs => by cases hs⟩
  · simp [Value.cells] at hcs
    obtain ⟨rfl, rfl, rfl⟩ := hcs
    simp only [if_true] at hz
    have hlen : (ss.take len).length = len := by rw [List.length_take]; omega
    refine ⟨ss.take len, ⟨some x, cap, by rw [hlen], ?_⟩, fun s hs => hws s (List.mem_of_mem_take hs)⟩
    by_cases h0 : len = 0
    · subst h0; exact .inl (by simp)
    · obtain ⟨b, off, spot⟩ := x
      have hspot : spot = none := by simpa [Addr.add] using World.cell?_spot (hcell 0 (by omega))
      subst hspot
      refine .inr ⟨b, off, rfl, fun i s hi => ?_⟩
      rw [List.getElem?_take] at hi
      split at hi
      · rename_i hlt
        rw [← add_plain, hcell i (by omega), List.getD_eq_getElem?_getD, hi]
        rfl
      · cases hi

set_option maxRecDepth 100000 in
theorem lifted (os : Os) (started : os.Started) (H : Type) (enc : TypeId × Value → H) :
    ReturnsInHanded {} Trym.checked os 4 .any (Rows.fnTriedKindsKeepApartAndAnEmptyTryEndsTheRunSpec.pre6 enc Trym.prog Trym.f4 Rows.fnTriedKindsKeepApartAndAnEmptyTryEndsTheRunRow.domain false) (Rows.fnTriedKindsKeepApartAndAnEmptyTryEndsTheRunSpec.post enc Trym.prog Trym.f4 false true false false) := by
  refine returnsInHanded_of_change (C := Trym.checked) own started (by kernel_rfl) Trym.func4
    (ChangeSpec.witness6 (enc := enc) (C := Trym.checked) false ⟨#[], #[.string ByteArray.empty, .string ByteArray.empty, .slice none 0 0, .slice none 0 0, .slice none 0 0], []⟩ 8 (by kernel_rfl) (by kernel_rfl) (by kernel_rfl) (by kernel_rfl)) ?_
  intro W base args ds gs before hval0 hW hcnd _
  have hval : ∀ (j : Nat) t v, Trym.f4.params[j]? = some t → args[j]? = some v → Value.okWide Trym.prog W .any base t v := hval0
  have hW' := hW
  obtain ⟨p, q, hA0, hV, rfl, hfz, hnd⟩ := hW
  have hA : DataW.TrodAll enc Trym.prog W 0 (fun _ => true) true Trym.f4.params.toList args.toList ds p := hA0
  rw [Trym.params4] at hA hval
  obtain ⟨v0, vs0, d0, ds0, p0, q0, hargs, rfl, rfl, h0, r0⟩ := trodAll_cons hA
  obtain ⟨v1, vs1, d1, ds1, p1, q1, rfl, rfl, rfl, h1, r1⟩ := trodAll_cons r0
  obtain ⟨v2, vs2, d2, ds2, p2, q2, rfl, rfl, rfl, h2, r2⟩ := trodAll_cons r1
  obtain ⟨v3, vs3, d3, ds3, p3, q3, rfl, rfl, rfl, h3, r3⟩ := trodAll_cons r2
  obtain ⟨v4, vs4, d4, ds4, p4, q4, rfl, rfl, rfl, h4, r4⟩ := trodAll_cons r3
  obtain ⟨rfl, rfl, rfl⟩ := trodAll_nil r4
  obtain rfl : args = #[v0, v1, v2, v3, v4] := by cases args; simp_all
  obtain ⟨rfl, rfl⟩ := trodVars_none hV
  obtain ⟨a0, rfl, rfl, rfl, w0⟩ := open_string Trym.underlying9 (hval 0 9 v0 rfl rfl) h0
  obtain ⟨a1, rfl, rfl, rfl, w1⟩ := open_string Trym.underlying9 (hval 1 9 v1 rfl rfl) h1
  obtain ⟨a2, len2, cap2, rfl⟩ := okWide_slice Trym.underlying22 (hval 2 22 v2 rfl rfl)
  obtain ⟨a3, len3, cap3, rfl⟩ := okWide_slice Trym.underlying22 (hval 3 22 v3 rfl rfl)
  obtain ⟨a4, len4, cap4, rfl⟩ := okWide_slice Trym.underlying22 (hval 4 22 v4 rfl rfl)
  have lt2 : ∀ x ∈ p2, x.block < W.heap.size := by obtain ⟨m, hm⟩ := h2; exact DataW.trod_lt m _ _ _ hm
  have lt3 : ∀ x ∈ p3, x.block < W.heap.size := by obtain ⟨m, hm⟩ := h3; exact DataW.trod_lt m _ _ _ hm
  have lt4 : ∀ x ∈ p4, x.block < W.heap.size := by obtain ⟨m, hm⟩ := h4; exact DataW.trod_lt m _ _ _ hm
  obtain ⟨A, hA1, hsA⟩ := has_open h2
  obtain ⟨B, hB1, hsB⟩ := has_open h3
  obtain ⟨C, hC1, hsC⟩ := has_open h4
  clear hA0 hval0
  refine (law2_walk a0 a1 _ _ _ A B C W w0 w1 hsA hsB hsC hA1 hB1 hC1).mono fun e W' ⟨he, bel⟩ => ?_
  subst he
  exact ⟨_, rfl, _, _, _, [], _, [], hW', trodAll_mk1 (shut_bool Trym.underlying4 _), (trodAll_cons_mk (shut_string Trym.underlying9 w0) (trodAll_cons_mk (shut_string Trym.underlying9 w1) (trodAll_cons_mk (Below.trod laidOut (by kernel_rfl) (of_decide_eq_true (by kernel_rfl)) h2 bel lt2) (trodAll_cons_mk (Below.trod laidOut (by kernel_rfl) (of_decide_eq_true (by kernel_rfl)) h3 bel lt3) (trodAll_cons_mk (Below.trod laidOut (by kernel_rfl) (of_decide_eq_true (by kernel_rfl)) h4 bel lt4) trodAll_mk0))))), rfl, bel.frame _, fun h => by cases h⟩

theorem over : Rows.fnTriedKindsKeepApartAndAnEmptyTryEndsTheRunRow.holds Trym.pinned (OpenSpec.ofChange Rows.fnTriedKindsKeepApartAndAnEmptyTryEndsTheRunSpec) :=
  OpenClaim.holds_of_wide 4 Trym.f4 rfl rfl rfl rfl rfl rfl rfl ⟨rfl, rfl, rfl, rfl, rfl⟩ rfl rfl rfl rfl rfl (by kernel_rfl) Trym.func4 (by kernel_rfl)
    (of_decide_eq_true (by kernel_rfl)) (by unfold Func.isWrapper; first | (rw [if_pos (by decide +kernel)]; kernel_rfl) | (rw [if_neg (by decide +kernel)]; exact ⟨rfl, rfl⟩))
    (fun os started H enc _ => lifted os started H enc)

/-- The statement. -/
theorem proved : Rows.FnTriedKindsKeepApartAndAnEmptyTryEndsTheRunSaid := over
#print axioms proved
end Go.Proofs.Qxb6602534aMods.fnTriedKindsKeepApartAndAnEmptyTryEndsTheRun
