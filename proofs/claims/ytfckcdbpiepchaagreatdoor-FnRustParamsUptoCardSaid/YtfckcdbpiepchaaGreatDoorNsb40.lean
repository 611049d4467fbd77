/- FnRustParams: the options for parameters of C++ functions do not matter. What the row asks of the text of the program. -/
import Derived.Test.YtfckcdbpiepchaaGreatDoorRows
import Derived.ProofKit
import Derived.Deep.DeepHandedRow
import Derived.SevenTiedAt
namespace Go.Proofs.YtfckcdbpiepchaaGreatDoor.fnRustParams
open Go.RowKit
theorem yy2:joinedFacts Tryz.pinned.checked.prog 9 Tryz.f9 (Rows.OpenSpec.upto Rows.fnRustParamsSpec).bare Rows.fnRustParamsUptoRow=true:=by kernel_rfl
theorem yzk:Tryz.f9.isInstance Tryz.pinned.checked.prog Rows.fnRustParamsUptoRow.origin Rows.fnRustParamsUptoRow.targs:=of_decide_eq_true (by kernel_rfl)
theorem wrap:Tryz.f9.isWrapper Tryz.pinned.checked.prog Rows.fnRustParamsUptoRow.wrapper Rows.fnRustParamsUptoRow.mainSum:=by unfold Func.isWrapper;first|(rw[if_pos (by decide +kernel)];kernel_rfl)|(rw[if_neg (by decide +kernel)];exact⟨rfl,rfl⟩)
theorem yzj:Tryz.pinned.checked.prog.funcNamed Rows.fnRustParamsUptoRow.func=some 9:=by kernel_rfl
end Go.Proofs.YtfckcdbpiepchaaGreatDoor.fnRustParams
