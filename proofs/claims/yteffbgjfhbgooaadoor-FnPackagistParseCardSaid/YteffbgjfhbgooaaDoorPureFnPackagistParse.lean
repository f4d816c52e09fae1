/- The plain law of FnPackagistParse, under the name that its row asks for; it holds for every argument within the bounds that 'Pure' names. -/
import Derived.Test.YteffbgjfhbgooaaDoorV3
namespace Go.Proofs.YteffbgjfhbgooaaDoor.Pure
theorem FnPackagistParse : Go.Proofs.YteffbgjfhbgooaaDoor.Q.laws_FnPackagistParse.Pure := Go.Proofs.YteffbgjfhbgooaaDoor.V.FnPackagistParse
end Go.Proofs.YteffbgjfhbgooaaDoor.Pure
