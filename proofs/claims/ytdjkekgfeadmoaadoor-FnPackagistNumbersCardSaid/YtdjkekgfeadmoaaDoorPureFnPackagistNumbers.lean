/- The plain law of FnPackagistNumbers, under the name that its row asks for; it holds for every argument within the bounds that 'Pure' names. -/
import Derived.Test.YtdjkekgfeadmoaaDoorY3
namespace Go.Proofs.YtdjkekgfeadmoaaDoor.Pure
theorem FnPackagistNumbers : Go.Proofs.YtdjkekgfeadmoaaDoor.Q.laws_FnPackagistNumbers.Pure := Go.Proofs.YtdjkekgfeadmoaaDoor.V.FnPackagistNumbers
end Go.Proofs.YtdjkekgfeadmoaaDoor.Pure
