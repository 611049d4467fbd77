/- FnMaxLengthTree: with MaxLength, the text of a tree whose names have no characters beyond 127 is cut to this length. The row. -/
import Derived.Test.YtfckcdbpiepchaaGreatDoorRTreeA
import Derived.Test.YtfckcdbpiepchaaGreatDoorRTreeC
namespace Go.Proofs.YtfckcdbpiepchaaGreatDoor.fnMaxLengthTree
set_option linter.all false
open Go.ChangeShapes Go.WideShapes Go.ChangeAt Go.RowKit

theorem over : Rows.FnMaxLengthTreeUptoSaid :=
  OpenClaim.holds_of_cond 5 Tryz.f5 rfl rfl rfl rfl rfl rfl rfl ⟨rfl, rfl, rfl, rfl, rfl⟩ rfl rfl rfl rfl rfl yzj Tryz.func5 yy2 yzk wrap
    (fun os started H enc _ F => by rw [OpenClaim.pre_eq_preRow]; exact yyc os started H enc F)
end Go.Proofs.YtfckcdbpiepchaaGreatDoor.fnMaxLengthTree
