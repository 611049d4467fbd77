/- FnRustNewStyle: names of the new style are read with NoRust as well. The row. -/
import Derived.Test.YtfckcdbpiepchaaGreatDoorNsa39
import Derived.Test.YtfckcdbpiepchaaGreatDoorNsa40
namespace Go.Proofs.YtfckcdbpiepchaaGreatDoor.fnRustNewStyle
open Go.ChangeShapes Go.WideShapes Go.ChangeAt Go.RowKit
theorem over:Rows.FnRustNewStyleUptoSaid:=
 OpenClaim.holds_of_cond 8 Tryz.f8 rfl rfl rfl rfl rfl rfl rfl ⟨rfl,rfl,rfl,rfl,rfl⟩ rfl rfl rfl rfl rfl yzj Tryz.func8 yy2 yzk wrap
  (fun os started H enc _ F=>by rw[OpenClaim.pre_eq_preRow];exact yyc os started H enc F)
end Go.Proofs.YtfckcdbpiepchaaGreatDoor.fnRustNewStyle
