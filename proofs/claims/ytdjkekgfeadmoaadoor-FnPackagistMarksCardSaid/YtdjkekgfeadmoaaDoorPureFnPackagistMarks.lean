/- The plain law of FnPackagistMarks, under the name that its row asks for; it holds for every argument within the bounds that 'Pure' names. -/
import Derived.Test.YtdjkekgfeadmoaaDoorY5
namespace Go.Proofs.YtdjkekgfeadmoaaDoor.Pure
theorem FnPackagistMarks : Go.Proofs.YtdjkekgfeadmoaaDoor.Q.laws_FnPackagistMarks.Pure := Go.Proofs.YtdjkekgfeadmoaaDoor.V.FnPackagistMarks
end Go.Proofs.YtdjkekgfeadmoaaDoor.Pure
