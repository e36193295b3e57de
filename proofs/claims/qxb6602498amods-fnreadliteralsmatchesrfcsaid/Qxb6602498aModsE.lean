import Derived.Test.Qxb6602498aModsRows
import Derived.WalkKit
import Derived.ProofKit
import Derived.ChangeOld
import Derived.Below
import Derived.WalkLawsBesides
import Derived.Deep.QuietTactic
import Derived.BigQuiet
namespace Go.Proofs.Qxb6602498aMods
open Go.ChangeShapes Go.WideShapes Go.ChangeAt Go.RowKit
set_option linter.unusedVariables false

set_option maxRecDepth 100000 in
theorem zzr (a : Option Addr) (len cap : Nat) (w : World) (k h r s : Int) (ok : Bool)
    (H : Hid (Calls Trym.prog 14 #[.slice a len cap] w fun e w' => e = .returned (.tuple #[.agg #[.int .u8 k, .int .i64 h, .int .i64 r, .int .i64 s], .bool ok]) ∧ Below w.heap.size w w')) :
    Calls Trym.prog 8 #[.slice a len cap] w fun e w' => e = .returned (.tuple #[.int .u8 k, .int .i64 h, .int .i64 r, .int .i64 s, .bool ok]) ∧ Below w.heap.size w w' := by
  go_enter Trym.func8, Trym.ntmps8
  go_wp2_with fail
  refine H.out.mono ?_
  rintro e w1 ⟨rfl, hb⟩
  go_wp2
  go_quiet (fail)
  go_wp2
  refine bodyPost_ret (v := .tuple #[.int .u8 k, .int .i64 h, .int .i64 r, .int .i64 s, .bool ok]) (by simp [results, Trym.results8, go_sem]) rfl ⟨rfl, ?_⟩
  exact below_drewN (hb.alloc hb.size _) _
end Go.Proofs.Qxb6602498aMods
