/- The plain law of FnPackagistPoints, under the name that its row asks for; it holds for every argument within the bounds that 'Pure' names. -/
import Derived.Test.YtdjkekgfeadmoaaDoorY6
namespace Go.Proofs.YtdjkekgfeadmoaaDoor.Pure
theorem FnPackagistPoints : Go.Proofs.YtdjkekgfeadmoaaDoor.T.laws_FnPackagistPoints.Pure := Go.Proofs.YtdjkekgfeadmoaaDoor.VT.FnPackagistPoints
end Go.Proofs.YtdjkekgfeadmoaaDoor.Pure
