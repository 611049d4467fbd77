/- FnRustTemplates: where there are no generic arguments, NoTemplateParams does not matter. The row. -/
import Derived.Test.YtfckcdbpiepchaaGreatDoorRTmplA
import Derived.Test.YtfckcdbpiepchaaGreatDoorRTmplC
namespace Go.Proofs.YtfckcdbpiepchaaGreatDoor.fnRustTemplates
set_option linter.all false
open Go.ChangeShapes Go.WideShapes Go.ChangeAt Go.RowKit

theorem over : Rows.FnRustTemplatesUptoSaid :=
  OpenClaim.holds_of_cond 11 Tryz.f11 rfl rfl rfl rfl rfl rfl rfl ⟨rfl, rfl, rfl, rfl, rfl⟩ rfl rfl rfl rfl rfl yzj Tryz.func11 yy2 yzk wrap
    (fun os started H enc _ F => by rw [OpenClaim.pre_eq_preRow]; exact yyc os started H enc F)
end Go.Proofs.YtfckcdbpiepchaaGreatDoor.fnRustTemplates
