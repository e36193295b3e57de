/-
  No cell of these rows narrows 'for every input' (looked for: loops, veiled, ifaces, maps, wideKeys, modest, calm, conditions, laid).
  DERIVED. THE GIVEN ROWS OF THIS SEAT. 3 by the template 'for every input the law returns true; each argument reads behind the call as it read before'; 0 by the template 'total and deterministic' (their statements: Qxb6602534aModsTotals.lean).
  GIVEN WITH THE SEED: the statements are not yours to turn. If you find one false, say at which input.
  Laid BY PROGRAM, IN A SANDBOX (cutbox-rows.mjs): the forced cells as the released guide's own fill.sh prints them over the translation 697925120d358673… (all of the seat's roots in one cut). By AI agents, Wed Nov 11 2026. No macro, syntax, notation, axiom, sorry.
-/
import Derived.Test.Qxb6602534aModsChecked
import GoSem.Claim
import GoSem.ClaimJoined
import GoSem.ClaimMapViews
import Derived.JoinedTies
import Derived.KernelRfl
namespace Go.Proofs.Qxb6602534aMods
/- THE CELL 'sum', in the pinned program and in every row, IS THE sha256 OF THE DUMP (.gsa) THAT Qxb6602534aModsProg.lean LOADS. Nothing in Lean hashes anything: it is a label: what it is worth is what the hold of that sum in a sandbox is worth. -/
noncomputable def Trym.pinned : Pinned := { name := "qxb6602534amods", sum := "697925120d3586730594544573fe6cc4fd0cf36e110faf3e31966992d1a13b3a", checked := Trym.checked }
namespace Rows
def none {H : Type} : Left H := { results := [], args := [] }

/-- 'zzlaws_internal_kubeapi_b1.FnTriedAnswersLinesThePreviousTryDidNotMeet': WHATEVER THE INPUT: true; the input reads as it did. -/
def fnTriedAnswersLinesThePreviousTryDidNotMeetSpec : ChangeSpec := { name := "fnTriedAnswersLinesThePreviousTryDidNotMeet", fn := fun _ => fun
  | [d1, d2, d3] => { results := [.lit (.bool true)], args := [d1, d2, d3] }
  | _ => none }
def fnTriedAnswersLinesThePreviousTryDidNotMeetRow : OpenClaim := { program := "qxb6602534amods", sum := "697925120d3586730594544573fe6cc4fd0cf36e110faf3e31966992d1a13b3a", func := "example.com/ebbtide/ebbtide/zzlaws_internal_kubeapi_b1.FnTriedAnswersLinesThePreviousTryDidNotMeet", spec := "fnTriedAnswersLinesThePreviousTryDidNotMeet", make := .lifted ["publicsums"], apart := false }
def FnTriedAnswersLinesThePreviousTryDidNotMeetSaid : Prop := fnTriedAnswersLinesThePreviousTryDidNotMeetRow.holds Trym.pinned (OpenSpec.ofChange fnTriedAnswersLinesThePreviousTryDidNotMeetSpec)

/-- ITS FALSE NEIGHBOUR: 'it returns false'. Refute it at one input. -/
def fnTriedAnswersLinesThePreviousTryDidNotMeetWrong : ChangeSpec := { name := "fnTriedAnswersLinesThePreviousTryDidNotMeet", fn := fun _ => fun
  | [d1, d2, d3] => { results := [.lit (.bool false)], args := [d1, d2, d3] }
  | _ => none }
def FnTriedAnswersLinesThePreviousTryDidNotMeetWrongFalsely : Prop := fnTriedAnswersLinesThePreviousTryDidNotMeetRow.holds Trym.pinned (OpenSpec.ofChange fnTriedAnswersLinesThePreviousTryDidNotMeetWrong)

/-- 'zzlaws_internal_kubeapi_b1.FnTriedKindsKeepApartAndAnEmptyTryEndsTheRun': WHATEVER THE INPUT: true; the input reads as it did. -/
def fnTriedKindsKeepApartAndAnEmptyTryEndsTheRunSpec : ChangeSpec := { name := "fnTriedKindsKeepApartAndAnEmptyTryEndsTheRun", fn := fun _ => fun
  | [d1, d2, d3, d4, d5] => { results := [.lit (.bool true)], args := [d1, d2, d3, d4, d5] }
  | _ => none }
def fnTriedKindsKeepApartAndAnEmptyTryEndsTheRunRow : OpenClaim := { program := "qxb6602534amods", sum := "697925120d3586730594544573fe6cc4fd0cf36e110faf3e31966992d1a13b3a", func := "example.com/ebbtide/ebbtide/zzlaws_internal_kubeapi_b1.FnTriedKindsKeepApartAndAnEmptyTryEndsTheRun", spec := "fnTriedKindsKeepApartAndAnEmptyTryEndsTheRun", make := .lifted ["publicsums"], apart := false }
def FnTriedKindsKeepApartAndAnEmptyTryEndsTheRunSaid : Prop := fnTriedKindsKeepApartAndAnEmptyTryEndsTheRunRow.holds Trym.pinned (OpenSpec.ofChange fnTriedKindsKeepApartAndAnEmptyTryEndsTheRunSpec)

/-- ITS FALSE NEIGHBOUR: 'it returns false'. Refute it at one input. -/
def fnTriedKindsKeepApartAndAnEmptyTryEndsTheRunWrong : ChangeSpec := { name := "fnTriedKindsKeepApartAndAnEmptyTryEndsTheRun", fn := fun _ => fun
  | [d1, d2, d3, d4, d5] => { results := [.lit (.bool false)], args := [d1, d2, d3, d4, d5] }
  | _ => none }
def FnTriedKindsKeepApartAndAnEmptyTryEndsTheRunWrongFalsely : Prop := fnTriedKindsKeepApartAndAnEmptyTryEndsTheRunRow.holds Trym.pinned (OpenSpec.ofChange fnTriedKindsKeepApartAndAnEmptyTryEndsTheRunWrong)

/-- 'zzlaws_internal_kubeapi_b1.FnTriedAnswerHangsOnlyOnTheSetOfThePreviousTry': WHATEVER THE INPUT: true; the input reads as it did. -/
def fnTriedAnswerHangsOnlyOnTheSetOfThePreviousTrySpec : ChangeSpec := { name := "fnTriedAnswerHangsOnlyOnTheSetOfThePreviousTry", fn := fun _ => fun
  | [d1, d2, d3] => { results := [.lit (.bool true)], args := [d1, d2, d3] }
  | _ => none }
def fnTriedAnswerHangsOnlyOnTheSetOfThePreviousTryRow : OpenClaim := { program := "qxb6602534amods", sum := "697925120d3586730594544573fe6cc4fd0cf36e110faf3e31966992d1a13b3a", func := "example.com/ebbtide/ebbtide/zzlaws_internal_kubeapi_b1.FnTriedAnswerHangsOnlyOnTheSetOfThePreviousTry", spec := "fnTriedAnswerHangsOnlyOnTheSetOfThePreviousTry", make := .lifted ["publicsums"], apart := false }
def FnTriedAnswerHangsOnlyOnTheSetOfThePreviousTrySaid : Prop := fnTriedAnswerHangsOnlyOnTheSetOfThePreviousTryRow.holds Trym.pinned (OpenSpec.ofChange fnTriedAnswerHangsOnlyOnTheSetOfThePreviousTrySpec)

/-- ITS FALSE NEIGHBOUR: 'it returns false'. Refute it at one input. -/
def fnTriedAnswerHangsOnlyOnTheSetOfThePreviousTryWrong : ChangeSpec := { name := "fnTriedAnswerHangsOnlyOnTheSetOfThePreviousTry", fn := fun _ => fun
  | [d1, d2, d3] => { results := [.lit (.bool false)], args := [d1, d2, d3] }
  | _ => none }
def FnTriedAnswerHangsOnlyOnTheSetOfThePreviousTryWrongFalsely : Prop := fnTriedAnswerHangsOnlyOnTheSetOfThePreviousTryRow.holds Trym.pinned (OpenSpec.ofChange fnTriedAnswerHangsOnlyOnTheSetOfThePreviousTryWrong)

end Rows
end Go.Proofs.Qxb6602534aMods
