/- Proved here: each Go function that is named in this text, called as its theorem 'calls' says, returns what its Lean function 'f' tells, and of the memory that was there nothing is changed (a row of a law: the law returns true). Conditions: those that stand in each theorem; where 'f' tells none, nothing is said. Laid by a program of this seat's prover out of the translation; Lean checks it. -/
import Derived.Test.YtdjkekgfeadmoaaGreatDoorQx0
import Derived.Test.YtdjkekgfeadmoaaGreatDoorQx1
import Derived.Test.YtdjkekgfeadmoaaGreatDoorQx2
import Derived.Test.YtdjkekgfeadmoaaGreatDoorQx3
import Derived.Test.YtdjkekgfeadmoaaGreatDoorQx4
import Derived.Test.YtdjkekgfeadmoaaGreatDoorQx5
import Derived.Test.YtdjkekgfeadmoaaGreatDoorQx6
import Derived.Test.YtdjkekgfeadmoaaGreatDoorQx7
import Derived.Test.YtdjkekgfeadmoaaGreatDoorQx8
namespace Go.Proofs.YtdjkekgfeadmoaaGreatDoor.Q
open Go.RowKit Go.Proofs.YtdjkekgfeadmoaaGreatDoorH Go.Proofs.YtdjkekgfeadmoaaGreatDoorG Go.Proofs.YtdjkekgfeadmoaaGreatDoorW.PrintWords Go.Proofs.YtdjkekgfeadmoaaGreatDoorW.PrintLast Go.Proofs.YtdjkekgfeadmoaaGreatDoorW.PrintMore
attribute [local go_sem] max2_int min2_int max_two min_two max_three min_three max_four min_four   -- for this text's walks alone
set_option linter.unusedVariables false
set_option linter.unusedSimpArgs false

end Go.Proofs.YtdjkekgfeadmoaaGreatDoor.Q
