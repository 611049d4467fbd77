/- FnRustSpelled: names of one tree are read as one text, whether they refer to what stands before or not. The row. -/
import Derived.Test.YtfckcdbpiepchaaGreatDoorNsd39
import Derived.Test.YtfckcdbpiepchaaGreatDoorNsd40
namespace Go.Proofs.YtfckcdbpiepchaaGreatDoor.fnRustSpelled
open Go.ChangeShapes Go.WideShapes Go.ChangeAt Go.RowKit
theorem over:Rows.FnRustSpelledUptoSaid:=
 OpenClaim.holds_of_cond 10 Tryz.f10 rfl rfl rfl rfl rfl rfl rfl ⟨rfl,rfl,rfl,rfl,rfl⟩ rfl rfl rfl rfl rfl yzj Tryz.func10 yy2 yzk wrap
  (fun os started H enc _ F=>by rw[OpenClaim.pre_eq_preRow];exact yyc os started H enc F)
end Go.Proofs.YtfckcdbpiepchaaGreatDoor.fnRustSpelled
