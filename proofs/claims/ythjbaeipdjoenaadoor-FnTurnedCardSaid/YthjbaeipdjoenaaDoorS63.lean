/-
Sine and cosine at the whole degrees from 3 on, 241 of them: the words are fine.
-/
import Derived.Test.YthjbaeipdjoenaaDoorS5
namespace Go.Proofs.YthjbaeipdjoenaaDoor
theorem degs3 : ((List.range 241).all fun k => degOk (Int.ofNat k + (3))) = true := by decide +kernel
end Go.Proofs.YthjbaeipdjoenaaDoor
