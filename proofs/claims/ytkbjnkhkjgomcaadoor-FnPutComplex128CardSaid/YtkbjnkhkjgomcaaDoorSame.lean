/- The walk of the reference's comparison of two values of MessagePack without parts. No condition. -/
import Derived.Test.YtkbjnkhkjgomcaaDoorTakeP
namespace Go.Proofs.YtkbjnkhkjgomcaaDoor
set_option linter.unusedVariables false
set_option linter.unusedSimpArgs false
open Go.RowKit
end Go.Proofs.YtkbjnkhkjgomcaaDoor
