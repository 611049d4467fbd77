/- FnMaxLengthTree: with MaxLength, the text of a tree whose names have no characters beyond 127 is cut to this length. What the row asks of the text of the program. -/
import Derived.Test.YtfckcdbpiepchaaGreatDoorRows
import Derived.ProofKit
import Derived.Deep.DeepHandedRow
import Derived.SevenTiedAt
namespace Go.Proofs.YtfckcdbpiepchaaGreatDoor.fnMaxLengthTree
set_option linter.all false
open Go.RowKit
theorem yy2 : joinedFacts Tryz.pinned.checked.prog 5 Tryz.f5 (Rows.OpenSpec.upto Rows.fnMaxLengthTreeSpec).bare Rows.fnMaxLengthTreeUptoRow = true := by kernel_rfl
theorem yzk : Tryz.f5.isInstance Tryz.pinned.checked.prog Rows.fnMaxLengthTreeUptoRow.origin Rows.fnMaxLengthTreeUptoRow.targs := of_decide_eq_true (by kernel_rfl)
theorem wrap : Tryz.f5.isWrapper Tryz.pinned.checked.prog Rows.fnMaxLengthTreeUptoRow.wrapper Rows.fnMaxLengthTreeUptoRow.mainSum := by unfold Func.isWrapper; first | (rw [if_pos (by decide +kernel)]; kernel_rfl) | (rw [if_neg (by decide +kernel)]; exact ⟨rfl, rfl⟩)
theorem yzj : Tryz.pinned.checked.prog.funcNamed Rows.fnMaxLengthTreeUptoRow.func = some 5 := by kernel_rfl
end Go.Proofs.YtfckcdbpiepchaaGreatDoor.fnMaxLengthTree
