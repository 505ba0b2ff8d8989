/- The walks of MessagePack's small writers: prefixes, room, bytes copied. No condition. -/
import Derived.Test.YtooifcdkpddlmaaDoorLib
namespace Go.Proofs.YtooifcdkpddlmaaDoor
set_option linter.unusedVariables false
set_option linter.unusedSimpArgs false
open Go.RowKit

theorem info_u8 : (Tryd.prog.info? 5).map (fun i => (i.zero, i.size, i.bytes)) = some (some (.int .u8 0), 1, 1) := by kernel_rfl
theorem size_u8 : (Tryd.prog.info? 5).map (·.size) = some 1 := by kernel_rfl
abbrev u8 (x : Int) : Value := .int .u8 x



end Go.Proofs.YtooifcdkpddlmaaDoor
