/- FnRustBareCandidate: with NoTemplateParams, there is nothing between the brackets of generic arguments. The row. -/
import Derived.Test.YtfckcdbpiepchaaGreatDoorRBareAp
import Derived.Test.YtfckcdbpiepchaaGreatDoorRBareCp
namespace Go.Proofs.YtfckcdbpiepchaaGreatDoor.fnRustBareCandidate
set_option linter.all false
open Go.ChangeShapes Go.WideShapes Go.ChangeAt Go.RowKit

theorem over : Rows.FnRustBareCandidateUptoSaid :=
  OpenClaim.holds_of_cond 6 Tryz.f6 rfl rfl rfl rfl rfl rfl rfl ⟨rfl, rfl, rfl, rfl, rfl⟩ rfl rfl rfl rfl rfl yzj Tryz.func6 yy2 yzk wrap
    (fun os started H enc _ F => by rw [OpenClaim.pre_eq_preRow]; exact yyc os started H enc F)
end Go.Proofs.YtfckcdbpiepchaaGreatDoor.fnRustBareCandidate
