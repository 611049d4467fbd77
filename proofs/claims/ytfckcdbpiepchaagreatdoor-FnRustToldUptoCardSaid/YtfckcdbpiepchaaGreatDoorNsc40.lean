/- FnRustTold: a name that is made of a tree is read as what the tree says, however it refers to what stands before. What the row asks of the text of the program. -/
import Derived.Test.YtfckcdbpiepchaaGreatDoorRows
import Derived.ProofKit
import Derived.Deep.DeepHandedRow
import Derived.SevenTiedAt
namespace Go.Proofs.YtfckcdbpiepchaaGreatDoor.fnRustTold
open Go.RowKit
theorem yy2:joinedFacts Tryz.pinned.checked.prog 12 Tryz.f12 (Rows.OpenSpec.upto Rows.fnRustToldSpec).bare Rows.fnRustToldUptoRow=true:=by kernel_rfl
theorem yzk:Tryz.f12.isInstance Tryz.pinned.checked.prog Rows.fnRustToldUptoRow.origin Rows.fnRustToldUptoRow.targs:=of_decide_eq_true (by kernel_rfl)
theorem wrap:Tryz.f12.isWrapper Tryz.pinned.checked.prog Rows.fnRustToldUptoRow.wrapper Rows.fnRustToldUptoRow.mainSum:=by unfold Func.isWrapper;first|(rw[if_pos (by decide +kernel)];kernel_rfl)|(rw[if_neg (by decide +kernel)];exact⟨rfl,rfl⟩)
theorem yzj:Tryz.pinned.checked.prog.funcNamed Rows.fnRustToldUptoRow.func=some 12:=by kernel_rfl
end Go.Proofs.YtfckcdbpiepchaaGreatDoor.fnRustTold
