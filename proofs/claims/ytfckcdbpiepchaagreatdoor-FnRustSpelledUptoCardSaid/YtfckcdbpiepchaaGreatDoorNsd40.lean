/- FnRustSpelled: names of one tree are read as one text, whether they refer to what stands before or not. What the row asks of the text of the program. -/
import Derived.Test.YtfckcdbpiepchaaGreatDoorRows
import Derived.ProofKit
import Derived.Deep.DeepHandedRow
import Derived.SevenTiedAt
namespace Go.Proofs.YtfckcdbpiepchaaGreatDoor.fnRustSpelled
open Go.RowKit
theorem yy2:joinedFacts Tryz.pinned.checked.prog 10 Tryz.f10 (Rows.OpenSpec.upto Rows.fnRustSpelledSpec).bare Rows.fnRustSpelledUptoRow=true:=by kernel_rfl
theorem yzk:Tryz.f10.isInstance Tryz.pinned.checked.prog Rows.fnRustSpelledUptoRow.origin Rows.fnRustSpelledUptoRow.targs:=of_decide_eq_true (by kernel_rfl)
theorem wrap:Tryz.f10.isWrapper Tryz.pinned.checked.prog Rows.fnRustSpelledUptoRow.wrapper Rows.fnRustSpelledUptoRow.mainSum:=by unfold Func.isWrapper;first|(rw[if_pos (by decide +kernel)];kernel_rfl)|(rw[if_neg (by decide +kernel)];exact⟨rfl,rfl⟩)
theorem yzj:Tryz.pinned.checked.prog.funcNamed Rows.fnRustSpelledUptoRow.func=some 10:=by kernel_rfl
end Go.Proofs.YtfckcdbpiepchaaGreatDoor.fnRustSpelled
