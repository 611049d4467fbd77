/- FnRustBehind: the path of the crate that asked for the code, behind the name, is not told. The row. -/
import Derived.Test.YtfckcdbpiepchaaGreatDoorRBehindA
import Derived.Test.YtfckcdbpiepchaaGreatDoorRBehindC
namespace Go.Proofs.YtfckcdbpiepchaaGreatDoor.fnRustBehind
set_option linter.all false
open Go.ChangeShapes Go.WideShapes Go.ChangeAt Go.RowKit

theorem over : Rows.FnRustBehindUptoSaid :=
  OpenClaim.holds_of_cond 7 Tryz.f7 rfl rfl rfl rfl rfl rfl rfl ⟨rfl, rfl, rfl, rfl, rfl⟩ rfl rfl rfl rfl rfl yzj Tryz.func7 yy2 yzk wrap
    (fun os started H enc _ F => by rw [OpenClaim.pre_eq_preRow]; exact yyc os started H enc F)
end Go.Proofs.YtfckcdbpiepchaaGreatDoor.fnRustBehind
