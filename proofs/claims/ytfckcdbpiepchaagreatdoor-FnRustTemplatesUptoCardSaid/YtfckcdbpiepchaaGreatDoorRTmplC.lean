/- FnRustTemplates: where there are no generic arguments, NoTemplateParams does not matter. What the row asks of the text of the program. -/
import Derived.Test.YtfckcdbpiepchaaGreatDoorRows
import Derived.ProofKit
import Derived.Deep.DeepHandedRow
import Derived.SevenTiedAt
namespace Go.Proofs.YtfckcdbpiepchaaGreatDoor.fnRustTemplates
set_option linter.all false
open Go.RowKit
theorem yy2 : joinedFacts Tryz.pinned.checked.prog 11 Tryz.f11 (Rows.OpenSpec.upto Rows.fnRustTemplatesSpec).bare Rows.fnRustTemplatesUptoRow = true := by kernel_rfl
theorem yzk : Tryz.f11.isInstance Tryz.pinned.checked.prog Rows.fnRustTemplatesUptoRow.origin Rows.fnRustTemplatesUptoRow.targs := of_decide_eq_true (by kernel_rfl)
theorem wrap : Tryz.f11.isWrapper Tryz.pinned.checked.prog Rows.fnRustTemplatesUptoRow.wrapper Rows.fnRustTemplatesUptoRow.mainSum := by unfold Func.isWrapper; first | (rw [if_pos (by decide +kernel)]; kernel_rfl) | (rw [if_neg (by decide +kernel)]; exact ⟨rfl, rfl⟩)
theorem yzj : Tryz.pinned.checked.prog.funcNamed Rows.fnRustTemplatesUptoRow.func = some 11 := by kernel_rfl
end Go.Proofs.YtfckcdbpiepchaaGreatDoor.fnRustTemplates
