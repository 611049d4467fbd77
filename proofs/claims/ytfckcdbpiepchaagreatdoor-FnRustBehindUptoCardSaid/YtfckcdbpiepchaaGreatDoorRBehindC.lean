/- FnRustBehind: the path of the crate that asked for the code, behind the name, is not told. What the row asks of the text of the program. -/
import Derived.Test.YtfckcdbpiepchaaGreatDoorRows
import Derived.ProofKit
import Derived.Deep.DeepHandedRow
import Derived.SevenTiedAt
namespace Go.Proofs.YtfckcdbpiepchaaGreatDoor.fnRustBehind
set_option linter.all false
open Go.RowKit
theorem yy2 : joinedFacts Tryz.pinned.checked.prog 7 Tryz.f7 (Rows.OpenSpec.upto Rows.fnRustBehindSpec).bare Rows.fnRustBehindUptoRow = true := by kernel_rfl
theorem yzk : Tryz.f7.isInstance Tryz.pinned.checked.prog Rows.fnRustBehindUptoRow.origin Rows.fnRustBehindUptoRow.targs := of_decide_eq_true (by kernel_rfl)
theorem wrap : Tryz.f7.isWrapper Tryz.pinned.checked.prog Rows.fnRustBehindUptoRow.wrapper Rows.fnRustBehindUptoRow.mainSum := by unfold Func.isWrapper; first | (rw [if_pos (by decide +kernel)]; kernel_rfl) | (rw [if_neg (by decide +kernel)]; exact ⟨rfl, rfl⟩)
theorem yzj : Tryz.pinned.checked.prog.funcNamed Rows.fnRustBehindUptoRow.func = some 7 := by kernel_rfl
end Go.Proofs.YtfckcdbpiepchaaGreatDoor.fnRustBehind
