/- The plain law of FnPyPILocalParts, under the name that its row asks for; it holds for every argument within the bounds that 'Pure' names. -/
import Derived.Test.YteffbgjfhbgooaaDoorV4
namespace Go.Proofs.YteffbgjfhbgooaaDoor.Pure
theorem FnPyPILocalParts : Go.Proofs.YteffbgjfhbgooaaDoor.R.laws_FnPyPILocalParts.Pure := Go.Proofs.YteffbgjfhbgooaaDoor.VR.FnPyPILocalParts
end Go.Proofs.YteffbgjfhbgooaaDoor.Pure
