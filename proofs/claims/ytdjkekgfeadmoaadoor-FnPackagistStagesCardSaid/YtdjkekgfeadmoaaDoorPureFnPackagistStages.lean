/- The plain law of FnPackagistStages, under the name that its row asks for; it holds for every argument within the bounds that 'Pure' names. -/
import Derived.Test.YtdjkekgfeadmoaaDoorY4
namespace Go.Proofs.YtdjkekgfeadmoaaDoor.Pure
theorem FnPackagistStages : Go.Proofs.YtdjkekgfeadmoaaDoor.Q.laws_FnPackagistStages.Pure := Go.Proofs.YtdjkekgfeadmoaaDoor.V.FnPackagistStages
end Go.Proofs.YtdjkekgfeadmoaaDoor.Pure
