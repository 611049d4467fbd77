/- FnRustTold: a name that is made of a tree is read as what the tree says, however it refers to what stands before. The row. -/
import Derived.Test.YtfckcdbpiepchaaGreatDoorNsc39
import Derived.Test.YtfckcdbpiepchaaGreatDoorNsc40
namespace Go.Proofs.YtfckcdbpiepchaaGreatDoor.fnRustTold
open Go.ChangeShapes Go.WideShapes Go.ChangeAt Go.RowKit
theorem over:Rows.FnRustToldUptoSaid:=
 OpenClaim.holds_of_cond 12 Tryz.f12 rfl rfl rfl rfl rfl rfl rfl ⟨rfl,rfl,rfl,rfl,rfl⟩ rfl rfl rfl rfl rfl yzj Tryz.func12 yy2 yzk wrap
  (fun os started H enc _ F=>by rw[OpenClaim.pre_eq_preRow];exact yyc os started H enc F)
end Go.Proofs.YtfckcdbpiepchaaGreatDoor.fnRustTold
