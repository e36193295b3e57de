/-
  No cell of these rows narrows 'for every input' (looked for: loops, veiled, ifaces, maps, wideKeys, modest, calm, conditions, laid).
  DERIVED. THE GIVEN ROWS OF THIS SEAT. 3 by the template 'for every input the law returns true; each argument reads behind the call as it read before'; 0 by the template 'total and deterministic' (their statements: Qxb6602498aModsTotals.lean).
  GIVEN WITH THE SEED: the statements are not yours to turn. If you find one false, say at which input.
  Laid BY PROGRAM, IN A SANDBOX (cutbox-rows.mjs): the forced cells as the released guide's own fill.sh prints them over the translation c70838e3df3d7873… (all of the seat's roots in one cut). By AI agents, Wed Nov 11 2026. No macro, syntax, notation, axiom, sorry.
-/
import Derived.Test.Qxb6602498aModsChecked
import GoSem.Claim
import GoSem.ClaimJoined
import GoSem.ClaimMapViews
import Derived.JoinedTies
import Derived.KernelRfl
namespace Go.Proofs.Qxb6602498aMods
/- THE CELL 'sum', in the pinned program and in every row, IS THE sha256 OF THE DUMP (.gsa) THAT Qxb6602498aModsProg.lean LOADS. Nothing in Lean hashes anything: it is a label: what it is worth is what the hold of that sum in a sandbox is worth. -/
noncomputable def Trym.pinned : Pinned := { name := "qxb6602498amods", sum := "c70838e3df3d78737599c81dd13dafc9479479fbd7dc533fe4d1a69ef6fe1853", checked := Trym.checked }
namespace Rows
def none {H : Type} : Left H := { results := [], args := [] }

/-- 'zzlaws_internal_decompress_b1.FnReadLiteralsMatchesRFC': WHATEVER THE INPUT: true; the input reads as it did. -/
def fnReadLiteralsMatchesRFCSpec : ChangeSpec := { name := "fnReadLiteralsMatchesRFC", fn := fun _ => fun
  | [d] => { results := [.lit (.bool true)], args := [d] }
  | _ => none }
def fnReadLiteralsMatchesRFCRow : OpenClaim := { program := "qxb6602498amods", sum := "c70838e3df3d78737599c81dd13dafc9479479fbd7dc533fe4d1a69ef6fe1853", func := "example.com/marlinspike/marlinspike/zzlaws_internal_decompress_b1.FnReadLiteralsMatchesRFC", spec := "fnReadLiteralsMatchesRFC", make := .lifted ["publicsums"], apart := false }
def FnReadLiteralsMatchesRFCSaid : Prop := fnReadLiteralsMatchesRFCRow.holds Trym.pinned (OpenSpec.ofChange fnReadLiteralsMatchesRFCSpec)

/-- ITS FALSE NEIGHBOUR: 'it returns false'. Refute it at one input. -/
def fnReadLiteralsMatchesRFCWrong : ChangeSpec := { name := "fnReadLiteralsMatchesRFC", fn := fun _ => fun
  | [d] => { results := [.lit (.bool false)], args := [d] }
  | _ => none }
def FnReadLiteralsMatchesRFCWrongFalsely : Prop := fnReadLiteralsMatchesRFCRow.holds Trym.pinned (OpenSpec.ofChange fnReadLiteralsMatchesRFCWrong)

/-- 'zzlaws_internal_decompress_b1.FnReadLiteralsHeaderIsLeastPrefix': WHATEVER THE INPUT: true; the input reads as it did. -/
def fnReadLiteralsHeaderIsLeastPrefixSpec : ChangeSpec := { name := "fnReadLiteralsHeaderIsLeastPrefix", fn := fun _ => fun
  | [d] => { results := [.lit (.bool true)], args := [d] }
  | _ => none }
def fnReadLiteralsHeaderIsLeastPrefixRow : OpenClaim := { program := "qxb6602498amods", sum := "c70838e3df3d78737599c81dd13dafc9479479fbd7dc533fe4d1a69ef6fe1853", func := "example.com/marlinspike/marlinspike/zzlaws_internal_decompress_b1.FnReadLiteralsHeaderIsLeastPrefix", spec := "fnReadLiteralsHeaderIsLeastPrefix", make := .lifted ["publicsums"], apart := false }
def FnReadLiteralsHeaderIsLeastPrefixSaid : Prop := fnReadLiteralsHeaderIsLeastPrefixRow.holds Trym.pinned (OpenSpec.ofChange fnReadLiteralsHeaderIsLeastPrefixSpec)

/-- ITS FALSE NEIGHBOUR: 'it returns false'. Refute it at one input. -/
def fnReadLiteralsHeaderIsLeastPrefixWrong : ChangeSpec := { name := "fnReadLiteralsHeaderIsLeastPrefix", fn := fun _ => fun
  | [d] => { results := [.lit (.bool false)], args := [d] }
  | _ => none }
def FnReadLiteralsHeaderIsLeastPrefixWrongFalsely : Prop := fnReadLiteralsHeaderIsLeastPrefixRow.holds Trym.pinned (OpenSpec.ofChange fnReadLiteralsHeaderIsLeastPrefixWrong)

/-- 'zzlaws_internal_decompress_b1.FnDecodeReadsOnlyItsCode': WHATEVER THE INPUT: true; the input reads as it did. -/
def fnDecodeReadsOnlyItsCodeSpec : ChangeSpec := { name := "fnDecodeReadsOnlyItsCode", fn := fun _ => fun
  | [d1, d2, d3, d4] => { results := [.lit (.bool true)], args := [d1, d2, d3, d4] }
  | _ => none }
def fnDecodeReadsOnlyItsCodeRow : OpenClaim := { program := "qxb6602498amods", sum := "c70838e3df3d78737599c81dd13dafc9479479fbd7dc533fe4d1a69ef6fe1853", func := "example.com/marlinspike/marlinspike/zzlaws_internal_decompress_b1.FnDecodeReadsOnlyItsCode", spec := "fnDecodeReadsOnlyItsCode", make := .lifted ["publicsums"], apart := false }
def FnDecodeReadsOnlyItsCodeSaid : Prop := fnDecodeReadsOnlyItsCodeRow.holds Trym.pinned (OpenSpec.ofChange fnDecodeReadsOnlyItsCodeSpec)

/-- ITS FALSE NEIGHBOUR: 'it returns false'. Refute it at one input. -/
def fnDecodeReadsOnlyItsCodeWrong : ChangeSpec := { name := "fnDecodeReadsOnlyItsCode", fn := fun _ => fun
  | [d1, d2, d3, d4] => { results := [.lit (.bool false)], args := [d1, d2, d3, d4] }
  | _ => none }
def FnDecodeReadsOnlyItsCodeWrongFalsely : Prop := fnDecodeReadsOnlyItsCodeRow.holds Trym.pinned (OpenSpec.ofChange fnDecodeReadsOnlyItsCodeWrong)

end Rows
end Go.Proofs.Qxb6602498aMods
