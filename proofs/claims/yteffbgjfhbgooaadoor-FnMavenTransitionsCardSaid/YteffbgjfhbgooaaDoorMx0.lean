/- Proved here: each Go function that is named in this text, called as its theorem 'calls' says, returns what its Lean function 'f' tells, and of the memory that was there nothing is changed (a row of a law: the law returns true). Conditions: those that stand in each theorem; where 'f' tells none, nothing is said. Laid by a program of this seat's prover out of the translation; Lean checks it. -/
import Derived.Test.YteffbgjfhbgooaaDoorProg
import Derived.Below
import Derived.Deep.Draws
import Derived.Deep.AppendLies
import Derived.Maps.AppendAt
import Derived.OwnWalk
import Derived.Laws.BytesArg
import Derived.Laws.MakeOwn
import Derived.Laws.OwnMore
import Derived.Deep.OwnRows
import Derived.Tactics
import Derived.Lib.ConvBytes
import Derived.Laws.Slices
import Derived.WalkKit
import Derived.KernelRfl
import Derived.RowKit3
import Derived.Deep.LoopGhost
import Derived.Deep.QuietTactic
import Derived.BigQuiet
import Derived.WideLaws
import Derived.Deep.DeepCutAuto
import Derived.Deep.CutBlock
import Derived.Deep.RegionHeld3
import Derived.Laws.Rows
import Derived.Lib.AppendStr
import Derived.ArgAppend
import Derived.Laws.IdiomCopy
import Derived.OrdersHeld
import Derived.Laws.BitsLemmas
import Derived.RowKit
import Derived.Test.YteffbgjfhbgooaaDoorH2
import Derived.Test.YteffbgjfhbgooaaDoorWWords
import Derived.Test.YteffbgjfhbgooaaDoorWLast
import Derived.Test.YteffbgjfhbgooaaDoorWTab
import Derived.Test.YteffbgjfhbgooaaDoorWFour
import Derived.Test.YteffbgjfhbgooaaDoorWQPut
import Derived.Test.YteffbgjfhbgooaaDoorWApart
import Derived.Test.YteffbgjfhbgooaaDoorWArr
import Derived.Test.YteffbgjfhbgooaaDoorWZeros
import Derived.Test.YteffbgjfhbgooaaDoorWFoot
import Derived.Test.YteffbgjfhbgooaaDoorWKept
import Derived.Test.YteffbgjfhbgooaaDoorWShare
import Derived.Test.YteffbgjfhbgooaaDoorWN
import Derived.Test.YteffbgjfhbgooaaDoorWFootNe
import Derived.Test.YteffbgjfhbgooaaDoorWAt
import Derived.Test.YteffbgjfhbgooaaDoorWEqStruct
import Derived.Test.YteffbgjfhbgooaaDoorWRepsOne
import Derived.Test.YteffbgjfhbgooaaDoorWInv
import Derived.Test.YteffbgjfhbgooaaDoorWInvWords
import Derived.Test.YteffbgjfhbgooaaDoorWGuard
import Derived.Test.YteffbgjfhbgooaaDoorWNEv
import Derived.Test.YteffbgjfhbgooaaDoorWMore
namespace Go.Proofs.YteffbgjfhbgooaaDoor.M
open Go.RowKit Go.Proofs.YteffbgjfhbgooaaDoorH Go.Proofs.YteffbgjfhbgooaaDoorW.PrintWords Go.Proofs.YteffbgjfhbgooaaDoorW.PrintLast Go.Proofs.YteffbgjfhbgooaaDoorW.PrintMore
attribute [local go_sem] max2_int min2_int max_two min_two max_three min_three max_four min_four   -- for this text's walks alone
set_option linter.unusedVariables false
set_option linter.unusedSimpArgs false



def errW : Option Int → Value
  | none => .nilIface
  | some c => .iface 0 (.int .i64 c)
theorem errW_none : errW none = .nilIface := rfl
theorem errW_some (c : Int) : errW (some c) = .iface 0 (.int .i64 c) := rfl

theorem info3 : (Tryd.prog.info? 3).map (fun i => (i.zero, i.size, i.bytes)) = some (some (.int .i64 0), 1, 8) := by kernel_rfl
theorem info9 : (Tryd.prog.info? 9).map (fun i => (i.zero, i.size, i.bytes)) = some (some (.string ⟨#[]⟩), 1, 16) := by kernel_rfl
-- the values' own types

end Go.Proofs.YteffbgjfhbgooaaDoor.M
