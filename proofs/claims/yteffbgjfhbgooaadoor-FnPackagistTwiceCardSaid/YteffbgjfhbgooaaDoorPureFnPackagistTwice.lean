/- The plain law of FnPackagistTwice, under the name that its row asks for; it holds for every argument within the bounds that 'Pure' names. -/
import Derived.Test.YteffbgjfhbgooaaDoorV2
namespace Go.Proofs.YteffbgjfhbgooaaDoor.Pure
theorem FnPackagistTwice : Go.Proofs.YteffbgjfhbgooaaDoor.Q.laws_FnPackagistTwice.Pure := Go.Proofs.YteffbgjfhbgooaaDoor.V.FnPackagistTwice
end Go.Proofs.YteffbgjfhbgooaaDoor.Pure
