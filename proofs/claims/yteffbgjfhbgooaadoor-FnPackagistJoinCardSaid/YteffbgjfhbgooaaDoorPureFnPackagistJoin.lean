/- The plain law of FnPackagistJoin, under the name that its row asks for; it holds for every argument within the bounds that 'Pure' names. -/
import Derived.Test.YteffbgjfhbgooaaDoorV3
namespace Go.Proofs.YteffbgjfhbgooaaDoor.Pure
theorem FnPackagistJoin : Go.Proofs.YteffbgjfhbgooaaDoor.Q.laws_FnPackagistJoin.Pure := Go.Proofs.YteffbgjfhbgooaaDoor.V.FnPackagistJoin
end Go.Proofs.YteffbgjfhbgooaaDoor.Pure
