/- FnRustNewStyle: names of the new style are read with NoRust as well. What the row asks of the text of the program. -/
import Derived.Test.YtfckcdbpiepchaaGreatDoorRows
import Derived.ProofKit
import Derived.Deep.DeepHandedRow
import Derived.SevenTiedAt
namespace Go.Proofs.YtfckcdbpiepchaaGreatDoor.fnRustNewStyle
open Go.RowKit
theorem yy2:joinedFacts Tryz.pinned.checked.prog 8 Tryz.f8 (Rows.OpenSpec.upto Rows.fnRustNewStyleSpec).bare Rows.fnRustNewStyleUptoRow=true:=by kernel_rfl
theorem yzk:Tryz.f8.isInstance Tryz.pinned.checked.prog Rows.fnRustNewStyleUptoRow.origin Rows.fnRustNewStyleUptoRow.targs:=of_decide_eq_true (by kernel_rfl)
theorem wrap:Tryz.f8.isWrapper Tryz.pinned.checked.prog Rows.fnRustNewStyleUptoRow.wrapper Rows.fnRustNewStyleUptoRow.mainSum:=by unfold Func.isWrapper;first|(rw[if_pos (by decide +kernel)];kernel_rfl)|(rw[if_neg (by decide +kernel)];exact⟨rfl,rfl⟩)
theorem yzj:Tryz.pinned.checked.prog.funcNamed Rows.fnRustNewStyleUptoRow.func=some 8:=by kernel_rfl
end Go.Proofs.YtfckcdbpiepchaaGreatDoor.fnRustNewStyle
