/-
  No cell of these rows narrows 'for every input' (looked for: loops, veiled, ifaces, maps, wideKeys, modest, calm, conditions, laid).
  DERIVED. THE GIVEN ROWS OF THIS SEAT. 3 by the template 'for every input the law returns true; each argument reads behind the call as it read before'; 0 by the template 'total and deterministic' (their statements: Qxb6602517aModsTotals.lean).
  GIVEN WITH THE SEED: the statements are not yours to turn. If you find one false, say at which input.
  Laid BY PROGRAM, IN A SANDBOX (cutbox-rows.mjs): the forced cells as the released guide's own fill.sh prints them over the translation 4c47849c4178b410… (all of the seat's roots in one cut). By AI agents, Wed Nov 11 2026. No macro, syntax, notation, axiom, sorry.
-/
import Derived.Test.Qxb6602517aModsChecked
import GoSem.Claim
import GoSem.ClaimJoined
import GoSem.ClaimMapViews
import Derived.JoinedTies
import Derived.KernelRfl
namespace Go.Proofs.Qxb6602517aMods
/- THE CELL 'sum', in the pinned program and in every row, IS THE sha256 OF THE DUMP (.gsa) THAT Qxb6602517aModsProg.lean LOADS. Nothing in Lean hashes anything: it is a label: what it is worth is what the hold of that sum in a sandbox is worth. -/
noncomputable def Trym.pinned : Pinned := { name := "qxb6602517amods", sum := "4c47849c4178b4106bd3259985484cee6ee6a39b752724e367434daf657cf07a", checked := Trym.checked }
namespace Rows
def none {H : Type} : Left H := { results := [], args := [] }

/-- 'zzlaws_internal_controller_b1.FnConditionReasonKeepsExactlyTheAllowedBytes': WHATEVER THE INPUT: true; the input reads as it did. -/
def fnConditionReasonKeepsExactlyTheAllowedBytesSpec : ChangeSpec := { name := "fnConditionReasonKeepsExactlyTheAllowedBytes", fn := fun _ => fun
  | [d] => { results := [.lit (.bool true)], args := [d] }
  | _ => none }
def fnConditionReasonKeepsExactlyTheAllowedBytesRow : OpenClaim := { program := "qxb6602517amods", sum := "4c47849c4178b4106bd3259985484cee6ee6a39b752724e367434daf657cf07a", func := "example.com/mendwatch/mendwatch/zzlaws_internal_controller_b1.FnConditionReasonKeepsExactlyTheAllowedBytes", spec := "fnConditionReasonKeepsExactlyTheAllowedBytes", make := .lifted ["publicsums"], apart := false }
def FnConditionReasonKeepsExactlyTheAllowedBytesSaid : Prop := fnConditionReasonKeepsExactlyTheAllowedBytesRow.holds Trym.pinned (OpenSpec.ofChange fnConditionReasonKeepsExactlyTheAllowedBytesSpec)

/-- ITS FALSE NEIGHBOUR: 'it returns false'. Refute it at one input. -/
def fnConditionReasonKeepsExactlyTheAllowedBytesWrong : ChangeSpec := { name := "fnConditionReasonKeepsExactlyTheAllowedBytes", fn := fun _ => fun
  | [d] => { results := [.lit (.bool false)], args := [d] }
  | _ => none }
def FnConditionReasonKeepsExactlyTheAllowedBytesWrongFalsely : Prop := fnConditionReasonKeepsExactlyTheAllowedBytesRow.holds Trym.pinned (OpenSpec.ofChange fnConditionReasonKeepsExactlyTheAllowedBytesWrong)

/-- 'zzlaws_internal_controller_b1.FnConditionReasonSplitsOverConcatenation': WHATEVER THE INPUT: true; the input reads as it did. -/
def fnConditionReasonSplitsOverConcatenationSpec : ChangeSpec := { name := "fnConditionReasonSplitsOverConcatenation", fn := fun _ => fun
  | [d1, d2] => { results := [.lit (.bool true)], args := [d1, d2] }
  | _ => none }
def fnConditionReasonSplitsOverConcatenationRow : OpenClaim := { program := "qxb6602517amods", sum := "4c47849c4178b4106bd3259985484cee6ee6a39b752724e367434daf657cf07a", func := "example.com/mendwatch/mendwatch/zzlaws_internal_controller_b1.FnConditionReasonSplitsOverConcatenation", spec := "fnConditionReasonSplitsOverConcatenation", make := .lifted ["publicsums"], apart := false }
def FnConditionReasonSplitsOverConcatenationSaid : Prop := fnConditionReasonSplitsOverConcatenationRow.holds Trym.pinned (OpenSpec.ofChange fnConditionReasonSplitsOverConcatenationSpec)

/-- ITS FALSE NEIGHBOUR: 'it returns false'. Refute it at one input. -/
def fnConditionReasonSplitsOverConcatenationWrong : ChangeSpec := { name := "fnConditionReasonSplitsOverConcatenation", fn := fun _ => fun
  | [d1, d2] => { results := [.lit (.bool false)], args := [d1, d2] }
  | _ => none }
def FnConditionReasonSplitsOverConcatenationWrongFalsely : Prop := fnConditionReasonSplitsOverConcatenationRow.holds Trym.pinned (OpenSpec.ofChange fnConditionReasonSplitsOverConcatenationWrong)

/-- 'zzlaws_internal_controller_b1.FnConditionReasonIsIdempotent': WHATEVER THE INPUT: true; the input reads as it did. -/
def fnConditionReasonIsIdempotentSpec : ChangeSpec := { name := "fnConditionReasonIsIdempotent", fn := fun _ => fun
  | [d] => { results := [.lit (.bool true)], args := [d] }
  | _ => none }
def fnConditionReasonIsIdempotentRow : OpenClaim := { program := "qxb6602517amods", sum := "4c47849c4178b4106bd3259985484cee6ee6a39b752724e367434daf657cf07a", func := "example.com/mendwatch/mendwatch/zzlaws_internal_controller_b1.FnConditionReasonIsIdempotent", spec := "fnConditionReasonIsIdempotent", make := .lifted ["publicsums"], apart := false }
def FnConditionReasonIsIdempotentSaid : Prop := fnConditionReasonIsIdempotentRow.holds Trym.pinned (OpenSpec.ofChange fnConditionReasonIsIdempotentSpec)

/-- ITS FALSE NEIGHBOUR: 'it returns false'. Refute it at one input. -/
def fnConditionReasonIsIdempotentWrong : ChangeSpec := { name := "fnConditionReasonIsIdempotent", fn := fun _ => fun
  | [d] => { results := [.lit (.bool false)], args := [d] }
  | _ => none }
def FnConditionReasonIsIdempotentWrongFalsely : Prop := fnConditionReasonIsIdempotentRow.holds Trym.pinned (OpenSpec.ofChange fnConditionReasonIsIdempotentWrong)

end Rows
end Go.Proofs.Qxb6602517aMods
