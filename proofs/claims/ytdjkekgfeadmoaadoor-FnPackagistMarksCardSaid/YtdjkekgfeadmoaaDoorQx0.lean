/- Proved here: each Go function that is named in this text, called as its theorem 'calls' says, returns what its Lean function 'f' tells, and of the memory that was there nothing is changed (a row of a law: the law returns true). Conditions: those that stand in each theorem; where 'f' tells none, nothing is said. Laid by a program of this seat's prover out of the translation; Lean checks it. -/
import Derived.Test.YtdjkekgfeadmoaaDoorProg
import Derived.Below
import Derived.Deep.Draws
import Derived.Deep.AppendLies
import Derived.Maps.AppendAt
import Derived.OwnWalk
import Derived.Laws.BytesArg
import Derived.Laws.MakeOwn
import Derived.Laws.OwnMore
import Derived.Deep.OwnRows
import Derived.Tactics
import Derived.Lib.ConvBytes
import Derived.Laws.Slices
import Derived.WalkKit
import Derived.KernelRfl
import Derived.RowKit3
import Derived.Deep.LoopGhost
import Derived.Deep.QuietTactic
import Derived.BigQuiet
import Derived.WideLaws
import Derived.Deep.DeepCutAuto
import Derived.Deep.CutBlock
import Derived.Deep.RegionHeld3
import Derived.Laws.Rows
import Derived.Lib.AppendStr
import Derived.ArgAppend
import Derived.Laws.IdiomCopy
import Derived.OrdersHeld
import Derived.Laws.BitsLemmas
import Derived.RowKit
import Derived.Test.YtdjkekgfeadmoaaDoorH
import Derived.Test.YtdjkekgfeadmoaaDoorKC
import Derived.Test.YtdjkekgfeadmoaaDoorWWords
import Derived.Test.YtdjkekgfeadmoaaDoorWLast
import Derived.Test.YtdjkekgfeadmoaaDoorWTab
import Derived.Test.YtdjkekgfeadmoaaDoorWQPut
import Derived.Test.YtdjkekgfeadmoaaDoorWApart
import Derived.Test.YtdjkekgfeadmoaaDoorWArr
import Derived.Test.YtdjkekgfeadmoaaDoorWZeros
import Derived.Test.YtdjkekgfeadmoaaDoorWFoot
import Derived.Test.YtdjkekgfeadmoaaDoorWKept
import Derived.Test.YtdjkekgfeadmoaaDoorWShare
import Derived.Test.YtdjkekgfeadmoaaDoorWN
import Derived.Test.YtdjkekgfeadmoaaDoorWRepsOne
import Derived.Test.YtdjkekgfeadmoaaDoorWGuard
import Derived.Test.YtdjkekgfeadmoaaDoorWNEv
import Derived.Test.YtdjkekgfeadmoaaDoorWMore
namespace Go.Proofs.YtdjkekgfeadmoaaDoor.Q
open Go.RowKit Go.Proofs.YtdjkekgfeadmoaaDoorH Go.Proofs.YtdjkekgfeadmoaaDoorG Go.Proofs.YtdjkekgfeadmoaaDoorW.PrintWords Go.Proofs.YtdjkekgfeadmoaaDoorW.PrintLast Go.Proofs.YtdjkekgfeadmoaaDoorW.PrintMore
attribute [local go_sem] max2_int min2_int max_two min_two max_three min_three max_four min_four   -- for this text's walks alone
set_option linter.unusedVariables false
set_option linter.unusedSimpArgs false



def errW : Option Int → Value
 | none => .nilIface
 | some c => .iface 0 (.int .i64 c)
theorem errW_none : errW none = .nilIface := rfl
theorem errW_some (c : Int) : errW (some c) = .iface 0 (.int .i64 c) := rfl

theorem info5 : (Tryd.prog.info? 5).map (fun i => (i.zero, i.size, i.bytes)) = some (some (.int .u8 0), 1, 1) := by kernel_rfl
theorem info9 : (Tryd.prog.info? 9).map (fun i => (i.zero, i.size, i.bytes)) = some (some (.string ⟨#[]⟩), 1, 16) := by kernel_rfl
-- the values' own types

end Go.Proofs.YtdjkekgfeadmoaaDoor.Q
