/- The plain law of FnMavenTransitions, under the name that its row asks for; it holds for every argument within the bounds that 'Pure' names. -/
import Derived.Test.YteffbgjfhbgooaaDoorV6
namespace Go.Proofs.YteffbgjfhbgooaaDoor.Pure
theorem FnMavenTransitions : Go.Proofs.YteffbgjfhbgooaaDoor.M.laws_FnMavenTransitions.Pure := Go.Proofs.YteffbgjfhbgooaaDoor.VM.FnMavenTransitions
end Go.Proofs.YteffbgjfhbgooaaDoor.Pure
