/- The plain law of FnPyPILocalJoined, under the name that its row asks for; it holds for every argument within the bounds that 'Pure' names. -/
import Derived.Test.YteffbgjfhbgooaaDoorV5
namespace Go.Proofs.YteffbgjfhbgooaaDoor.Pure
theorem FnPyPILocalJoined : Go.Proofs.YteffbgjfhbgooaaDoor.R.laws_FnPyPILocalJoined.Pure := Go.Proofs.YteffbgjfhbgooaaDoor.VR.FnPyPILocalJoined
end Go.Proofs.YteffbgjfhbgooaaDoor.Pure
