/- FnRustParams: the options for parameters of C++ functions do not matter. The row. -/
import Derived.Test.YtfckcdbpiepchaaGreatDoorNsb39
import Derived.Test.YtfckcdbpiepchaaGreatDoorNsb40
namespace Go.Proofs.YtfckcdbpiepchaaGreatDoor.fnRustParams
open Go.ChangeShapes Go.WideShapes Go.ChangeAt Go.RowKit
theorem over:Rows.FnRustParamsUptoSaid:=
 OpenClaim.holds_of_cond 9 Tryz.f9 rfl rfl rfl rfl rfl rfl rfl ⟨rfl,rfl,rfl,rfl,rfl⟩ rfl rfl rfl rfl rfl yzj Tryz.func9 yy2 yzk wrap
  (fun os started H enc _ F=>by rw[OpenClaim.pre_eq_preRow];exact yyc os started H enc F)
end Go.Proofs.YtfckcdbpiepchaaGreatDoor.fnRustParams
