/- The plain law of FnPackagistTexts, under the name that its row asks for; it holds for every argument within the bounds that 'Pure' names. -/
import Derived.Test.YtdjkekgfeadmoaaGreatDoorYZ
namespace Go.Proofs.YtdjkekgfeadmoaaGreatDoor.Pure
theorem FnPackagistTexts : Go.Proofs.YtdjkekgfeadmoaaGreatDoor.Q.laws_FnPackagistTexts.Pure := Go.Proofs.YtdjkekgfeadmoaaGreatDoor.V.FnPackagistTexts
end Go.Proofs.YtdjkekgfeadmoaaGreatDoor.Pure
