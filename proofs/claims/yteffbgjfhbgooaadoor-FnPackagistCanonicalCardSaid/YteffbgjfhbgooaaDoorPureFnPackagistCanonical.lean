/- The plain law of FnPackagistCanonical, under the name that its row asks for; it holds for every argument within the bounds that 'Pure' names. -/
import Derived.Test.YteffbgjfhbgooaaDoorV2
namespace Go.Proofs.YteffbgjfhbgooaaDoor.Pure
theorem FnPackagistCanonical : Go.Proofs.YteffbgjfhbgooaaDoor.Q.laws_FnPackagistCanonical.Pure := Go.Proofs.YteffbgjfhbgooaaDoor.V.FnPackagistCanonical
end Go.Proofs.YteffbgjfhbgooaaDoor.Pure
