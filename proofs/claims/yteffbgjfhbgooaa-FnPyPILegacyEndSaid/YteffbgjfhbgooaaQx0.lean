/- Proved here: each Go function that is named in this text, called as its theorem 'calls' says, returns what its Lean function 'f' tells, and of the memory that was there nothing is changed (a row of a law: the law returns true). Conditions: those that stand in each theorem; where 'f' tells none, nothing is said. Laid by a program of this seat's prover out of the translation; Lean checks it. -/
import Derived.Test.YteffbgjfhbgooaaProg
import Derived.Below
import Derived.Deep.Draws
import Derived.Deep.AppendLies
import Derived.Maps.AppendAt
import Derived.OwnWalk
import Derived.Laws.BytesArg
import Derived.Laws.MakeOwn
import Derived.Laws.OwnMore
import Derived.Deep.OwnRows
import Derived.Tactics
import Derived.Lib.ConvBytes
import Derived.Laws.Slices
import Derived.WalkKit
import Derived.KernelRfl
import Derived.RowKit3
import Derived.Deep.LoopGhost
import Derived.Deep.QuietTactic
import Derived.BigQuiet
import Derived.WideLaws
import Derived.Deep.DeepCutAuto
import Derived.Deep.CutBlock
import Derived.Deep.RegionHeld3
import Derived.Laws.Rows
import Derived.Lib.AppendStr
import Derived.ArgAppend
import Derived.Laws.IdiomCopy
import Derived.OrdersHeld
import Derived.Laws.BitsLemmas
import Derived.RowKit
import Derived.Test.YteffbgjfhbgooaaH0
import Derived.Test.YteffbgjfhbgooaaWWords
import Derived.Test.YteffbgjfhbgooaaWLast
import Derived.Test.YteffbgjfhbgooaaWTab
import Derived.Test.YteffbgjfhbgooaaWFour
import Derived.Test.YteffbgjfhbgooaaWQPut
import Derived.Test.YteffbgjfhbgooaaWApart
import Derived.Test.YteffbgjfhbgooaaWArr
import Derived.Test.YteffbgjfhbgooaaWZeros
import Derived.Test.YteffbgjfhbgooaaWFoot
import Derived.Test.YteffbgjfhbgooaaWKept
import Derived.Test.YteffbgjfhbgooaaWShare
import Derived.Test.YteffbgjfhbgooaaWN
import Derived.Test.YteffbgjfhbgooaaWFootNe
import Derived.Test.YteffbgjfhbgooaaWAt
import Derived.Test.YteffbgjfhbgooaaWEqStruct
import Derived.Test.YteffbgjfhbgooaaWRepsOne
import Derived.Test.YteffbgjfhbgooaaWInv
import Derived.Test.YteffbgjfhbgooaaWInvWords
import Derived.Test.YteffbgjfhbgooaaWGuard
import Derived.Test.YteffbgjfhbgooaaWNEv
import Derived.Test.YteffbgjfhbgooaaWMore
namespace Go.Proofs.Yteffbgjfhbgooaa.Q
open Go.RowKit Go.Proofs.YteffbgjfhbgooaaH Go.Proofs.YteffbgjfhbgooaaW.PrintWords Go.Proofs.YteffbgjfhbgooaaW.PrintLast Go.Proofs.YteffbgjfhbgooaaW.PrintMore
attribute [local go_sem] max2_int min2_int max_two min_two max_three min_three max_four min_four   -- for this text's walks alone
set_option linter.unusedVariables false
set_option linter.unusedSimpArgs false



def errW : Option Int → Value
  | none => .nilIface
  | some c => .iface 0 (.int .i64 c)
theorem errW_none : errW none = .nilIface := rfl
theorem errW_some (c : Int) : errW (some c) = .iface 0 (.int .i64 c) := rfl

theorem info9 : (Try.prog.info? 9).map (fun i => (i.zero, i.size, i.bytes)) = some (some (.string ⟨#[]⟩), 1, 16) := by kernel_rfl
-- the values' own types

end Go.Proofs.Yteffbgjfhbgooaa.Q
