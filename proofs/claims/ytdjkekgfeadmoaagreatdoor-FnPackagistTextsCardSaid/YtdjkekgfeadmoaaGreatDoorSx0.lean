/- Proved here: each Go function that is named in this text, called as its theorem 'calls' says, returns what its Lean function 'f' tells, and of the memory that was there nothing is changed (a row of a law: the law returns true). Conditions: those that stand in each theorem; where 'f' tells none, nothing is said. Laid by a program of this seat's prover out of the translation; Lean checks it. -/
import Derived.Test.YtdjkekgfeadmoaaGreatDoorProg
import Derived.Below
import Derived.Deep.Draws
import Derived.Deep.AppendLies
import Derived.Maps.AppendAt
import Derived.OwnWalk
import Derived.Laws.BytesArg
import Derived.Laws.MakeOwn
import Derived.Laws.OwnMore
import Derived.Deep.OwnRows
import Derived.Tactics
import Derived.Lib.ConvBytes
import Derived.Laws.Slices
import Derived.WalkKit
import Derived.KernelRfl
import Derived.RowKit3
import Derived.Deep.LoopGhost
import Derived.Deep.QuietTactic
import Derived.BigQuiet
import Derived.WideLaws
import Derived.Deep.DeepCutAuto
import Derived.Deep.CutBlock
import Derived.Deep.RegionHeld3
import Derived.Laws.Rows
import Derived.Lib.AppendStr
import Derived.ArgAppend
import Derived.Laws.IdiomCopy
import Derived.OrdersHeld
import Derived.Laws.BitsLemmas
import Derived.RowKit
import Derived.Test.YtdjkekgfeadmoaaGreatDoorH
import Derived.Test.YtdjkekgfeadmoaaGreatDoorWWords
import Derived.Test.YtdjkekgfeadmoaaGreatDoorWLast
import Derived.Test.YtdjkekgfeadmoaaGreatDoorWTab
import Derived.Test.YtdjkekgfeadmoaaGreatDoorWQPut
import Derived.Test.YtdjkekgfeadmoaaGreatDoorWApart
import Derived.Test.YtdjkekgfeadmoaaGreatDoorWArr
import Derived.Test.YtdjkekgfeadmoaaGreatDoorWZeros
import Derived.Test.YtdjkekgfeadmoaaGreatDoorWFoot
import Derived.Test.YtdjkekgfeadmoaaGreatDoorWKept
import Derived.Test.YtdjkekgfeadmoaaGreatDoorWShare
import Derived.Test.YtdjkekgfeadmoaaGreatDoorWN
import Derived.Test.YtdjkekgfeadmoaaGreatDoorWRepsOne
import Derived.Test.YtdjkekgfeadmoaaGreatDoorWGuard
import Derived.Test.YtdjkekgfeadmoaaGreatDoorWNEv
import Derived.Test.YtdjkekgfeadmoaaGreatDoorWMore
namespace Go.Proofs.YtdjkekgfeadmoaaGreatDoor.S
open Go.RowKit Go.Proofs.YtdjkekgfeadmoaaGreatDoorH Go.Proofs.YtdjkekgfeadmoaaGreatDoorW.PrintWords Go.Proofs.YtdjkekgfeadmoaaGreatDoorW.PrintLast Go.Proofs.YtdjkekgfeadmoaaGreatDoorW.PrintMore
attribute [local go_sem] max2_int min2_int max_two min_two max_three min_three max_four min_four   -- for this text's walks alone
set_option linter.unusedVariables false
set_option linter.unusedSimpArgs false



def errW : Option Int → Value
 | none => .nilIface
 | some c => .iface 0 (.int .i64 c)
theorem errW_none : errW none = .nilIface := rfl
theorem errW_some (c : Int) : errW (some c) = .iface 0 (.int .i64 c) := rfl

theorem info9 : (Tryz.prog.info? 9).map (fun i => (i.zero, i.size, i.bytes)) = some (some (.string ⟨#[]⟩), 1, 16) := by kernel_rfl
-- the values' own types

end Go.Proofs.YtdjkekgfeadmoaaGreatDoor.S
