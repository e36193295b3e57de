/-
  No cell of these rows narrows 'for every input' (looked for: loops, veiled, ifaces, maps, wideKeys, modest, calm, conditions, laid).
  DERIVED. THE GIVEN ROWS OF THIS SEAT. 4 by the template 'for every input the law returns true; each argument reads behind the call as it read before'; 0 by the template 'total and deterministic' (their statements: Qxb6602622aModsTotals.lean).
  GIVEN WITH THE SEED: the statements are not yours to turn. If you find one false, say at which input.
  Laid BY PROGRAM, IN A SANDBOX (cutbox-rows.mjs): the forced cells as the released guide's own fill.sh prints them over the translation 4f75d37752af6f15… (all of the seat's roots in one cut). By AI agents, Wed Nov 11 2026. No macro, syntax, notation, axiom, sorry.
-/
import Derived.Test.Qxb6602622aModsChecked
import GoSem.Claim
import GoSem.ClaimJoined
import GoSem.ClaimMapViews
import Derived.JoinedTies
import Derived.KernelRfl
namespace Go.Proofs.Qxb6602622aMods
/- THE CELL 'sum', in the pinned program and in every row, IS THE sha256 OF THE DUMP (.gsa) THAT Qxb6602622aModsProg.lean LOADS. Nothing in Lean hashes anything: it is a label: what it is worth is what the hold of that sum in a sandbox is worth. -/
noncomputable def Trym.pinned : Pinned := { name := "qxb6602622amods", sum := "4f75d37752af6f15918b5d66f946998a8a984cea7762a63d8b3524599976ee98", checked := Trym.checked }
namespace Rows
def none {H : Type} : Left H := { results := [], args := [] }

/-- 'zzlaws_root_b1.FnValidNameConcat': WHATEVER THE INPUT: true; the input reads as it did. -/
def fnValidNameConcatSpec : ChangeSpec := { name := "fnValidNameConcat", fn := fun _ => fun
  | [d1, d2] => { results := [.lit (.bool true)], args := [d1, d2] }
  | _ => none }
def fnValidNameConcatRow : OpenClaim := { program := "qxb6602622amods", sum := "4f75d37752af6f15918b5d66f946998a8a984cea7762a63d8b3524599976ee98", func := "example.com/stratalock/stratalock/zzlaws_root_b1.FnValidNameConcat", spec := "fnValidNameConcat", make := .lifted ["publicsums"], apart := false }
def FnValidNameConcatSaid : Prop := fnValidNameConcatRow.holds Trym.pinned (OpenSpec.ofChange fnValidNameConcatSpec)

/-- ITS FALSE NEIGHBOUR: 'it returns false'. Refute it at one input. -/
def fnValidNameConcatWrong : ChangeSpec := { name := "fnValidNameConcat", fn := fun _ => fun
  | [d1, d2] => { results := [.lit (.bool false)], args := [d1, d2] }
  | _ => none }
def FnValidNameConcatWrongFalsely : Prop := fnValidNameConcatRow.holds Trym.pinned (OpenSpec.ofChange fnValidNameConcatWrong)

/-- 'zzlaws_root_b1.FnDominatesSpec': WHATEVER THE INPUT: true; the input reads as it did. -/
def fnDominatesSpecSpec : ChangeSpec := { name := "fnDominatesSpec", fn := fun _ => fun
  | [d1, d2, d3, d4, d5, d6, d7, d8] => { results := [.lit (.bool true)], args := [d1, d2, d3, d4, d5, d6, d7, d8] }
  | _ => none }
def fnDominatesSpecRow : OpenClaim := { program := "qxb6602622amods", sum := "4f75d37752af6f15918b5d66f946998a8a984cea7762a63d8b3524599976ee98", func := "example.com/stratalock/stratalock/zzlaws_root_b1.FnDominatesSpec", spec := "fnDominatesSpec", make := .lifted ["publicsums"], apart := false }
def FnDominatesSpecSaid : Prop := fnDominatesSpecRow.holds Trym.pinned (OpenSpec.ofChange fnDominatesSpecSpec)

/-- ITS FALSE NEIGHBOUR: 'it returns false'. Refute it at one input. -/
def fnDominatesSpecWrong : ChangeSpec := { name := "fnDominatesSpec", fn := fun _ => fun
  | [d1, d2, d3, d4, d5, d6, d7, d8] => { results := [.lit (.bool false)], args := [d1, d2, d3, d4, d5, d6, d7, d8] }
  | _ => none }
def FnDominatesSpecWrongFalsely : Prop := fnDominatesSpecRow.holds Trym.pinned (OpenSpec.ofChange fnDominatesSpecWrong)

/-- 'zzlaws_root_b1.FnDominatesPartialOrder': WHATEVER THE INPUT: true; the input reads as it did. -/
def fnDominatesPartialOrderSpec : ChangeSpec := { name := "fnDominatesPartialOrder", fn := fun _ => fun
  | [d1, d2, d3, d4, d5, d6] => { results := [.lit (.bool true)], args := [d1, d2, d3, d4, d5, d6] }
  | _ => none }
def fnDominatesPartialOrderRow : OpenClaim := { program := "qxb6602622amods", sum := "4f75d37752af6f15918b5d66f946998a8a984cea7762a63d8b3524599976ee98", func := "example.com/stratalock/stratalock/zzlaws_root_b1.FnDominatesPartialOrder", spec := "fnDominatesPartialOrder", make := .lifted ["publicsums"], apart := false }
def FnDominatesPartialOrderSaid : Prop := fnDominatesPartialOrderRow.holds Trym.pinned (OpenSpec.ofChange fnDominatesPartialOrderSpec)

/-- ITS FALSE NEIGHBOUR: 'it returns false'. Refute it at one input. -/
def fnDominatesPartialOrderWrong : ChangeSpec := { name := "fnDominatesPartialOrder", fn := fun _ => fun
  | [d1, d2, d3, d4, d5, d6] => { results := [.lit (.bool false)], args := [d1, d2, d3, d4, d5, d6] }
  | _ => none }
def FnDominatesPartialOrderWrongFalsely : Prop := fnDominatesPartialOrderRow.holds Trym.pinned (OpenSpec.ofChange fnDominatesPartialOrderWrong)

/-- 'zzlaws_root_b1.FnStringRoundTrip': WHATEVER THE INPUT: true; the input reads as it did. -/
def fnStringRoundTripSpec : ChangeSpec := { name := "fnStringRoundTrip", fn := fun _ => fun
  | [d1, d2, d3, d4] => { results := [.lit (.bool true)], args := [d1, d2, d3, d4] }
  | _ => none }
def fnStringRoundTripRow : OpenClaim := { program := "qxb6602622amods", sum := "4f75d37752af6f15918b5d66f946998a8a984cea7762a63d8b3524599976ee98", func := "example.com/stratalock/stratalock/zzlaws_root_b1.FnStringRoundTrip", spec := "fnStringRoundTrip", inPlace := ["internal/abi.NoEscape"], make := .lifted ["publicsums"], apart := false }
def FnStringRoundTripSaid : Prop := fnStringRoundTripRow.holds Trym.pinned (OpenSpec.ofChange fnStringRoundTripSpec)

/-- ITS FALSE NEIGHBOUR: 'it returns false'. Refute it at one input. -/
def fnStringRoundTripWrong : ChangeSpec := { name := "fnStringRoundTrip", fn := fun _ => fun
  | [d1, d2, d3, d4] => { results := [.lit (.bool false)], args := [d1, d2, d3, d4] }
  | _ => none }
def FnStringRoundTripWrongFalsely : Prop := fnStringRoundTripRow.holds Trym.pinned (OpenSpec.ofChange fnStringRoundTripWrong)

end Rows
end Go.Proofs.Qxb6602622aMods
