/- The plain law of FnPyPILegacyEnd, under the name that its row asks for. -/
import Derived.Test.YteffbgjfhbgooaaV2
namespace Go.Proofs.Yteffbgjfhbgooaa.Pure
theorem FnPyPILegacyEnd : Go.Proofs.Yteffbgjfhbgooaa.Q.laws_FnPyPILegacyEnd.Pure := Go.Proofs.Yteffbgjfhbgooaa.V.FnPyPILegacyEnd
end Go.Proofs.Yteffbgjfhbgooaa.Pure
