/- The plain law of FnPyPIParts, under the name that its row asks for. -/
import Derived.Test.YteffbgjfhbgooaaV2
namespace Go.Proofs.Yteffbgjfhbgooaa.Pure
theorem FnPyPIParts : Go.Proofs.Yteffbgjfhbgooaa.Q.laws_FnPyPIParts.Pure := Go.Proofs.Yteffbgjfhbgooaa.V.FnPyPIParts
end Go.Proofs.Yteffbgjfhbgooaa.Pure
