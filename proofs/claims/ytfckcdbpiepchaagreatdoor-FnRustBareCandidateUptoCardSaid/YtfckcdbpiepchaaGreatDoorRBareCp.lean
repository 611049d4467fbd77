/- FnRustBareCandidate: with NoTemplateParams, there is nothing between the brackets of generic arguments. What the row asks of the text of the program. -/
import Derived.Test.YtfckcdbpiepchaaGreatDoorRows
import Derived.ProofKit
import Derived.Deep.DeepHandedRow
import Derived.SevenTiedAt
namespace Go.Proofs.YtfckcdbpiepchaaGreatDoor.fnRustBareCandidate
set_option linter.all false
open Go.RowKit
theorem yy2 : joinedFacts Tryz.pinned.checked.prog 6 Tryz.f6 (Rows.OpenSpec.upto Rows.fnRustBareCandidateSpec).bare Rows.fnRustBareCandidateUptoRow = true := by kernel_rfl
theorem yzk : Tryz.f6.isInstance Tryz.pinned.checked.prog Rows.fnRustBareCandidateUptoRow.origin Rows.fnRustBareCandidateUptoRow.targs := of_decide_eq_true (by kernel_rfl)
theorem wrap : Tryz.f6.isWrapper Tryz.pinned.checked.prog Rows.fnRustBareCandidateUptoRow.wrapper Rows.fnRustBareCandidateUptoRow.mainSum := by unfold Func.isWrapper; first | (rw [if_pos (by decide +kernel)]; kernel_rfl) | (rw [if_neg (by decide +kernel)]; exact ⟨rfl, rfl⟩)
theorem yzj : Tryz.pinned.checked.prog.funcNamed Rows.fnRustBareCandidateUptoRow.func = some 6 := by kernel_rfl
end Go.Proofs.YtfckcdbpiepchaaGreatDoor.fnRustBareCandidate
