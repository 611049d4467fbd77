/-
  FnRustBareCandidate: with NoTemplateParams, there is nothing between the brackets of generic arguments. The row and its card, for arguments of at most 1048576 values and letters together: at whatever such input the law returns true, and its arguments and the variables read as before; the listed tables are as the program's text lays them.
-/
import Derived.Test.YtfckcdbpiepchaaGreatDoorTie
import Derived.Test.YtfckcdbpiepchaaGreatDoorCards
import Derived.Test.YtfckcdbpiepchaaGreatDoorRBareBp
namespace Go.Proofs.YtfckcdbpiepchaaGreatDoor.fnRustBareCandidate
set_option linter.all false
open Go.ChangeShapes Go.WideShapes Go.ChangeAt Go.RowKit

theorem proved : Rows.FnRustBareCandidateUptoCardSaid :=
  Claim7.holds_tied_plain_at .later [] _ _ _ _ over (fun _ h => by cases h) (by kernel_rfl) (fun _ h => by cases h) fnRustBareCandidateUpto_row_tie rfl ⟨rfl, rfl⟩ (by kernel_rfl) rfl
    (fun f fn hf hfn => by
      obtain rfl : f = 6 := Option.some.inj ((show Tryz.prog.funcNamed "loop.example/pub-g01453/laws.FnRustBareCandidate" = some 6 by kernel_rfl).symm.trans hf) |>.symm
      obtain rfl : fn = Tryz.f6 := (Option.some.inj (Tryz.func6.symm.trans hfn)).symm
      exact ⟨by kernel_rfl, fun j t ht => by
        rw [Tryz.params6] at ht
        have hm : t ∈ [28, 38] := by simpa using Array.mem_of_getElem? ht
        have hall : ([28, 38].all fun u => !Tryz.prog.wantsStandIn u) = true := by kernel_rfl
        exact (show Tryz.prog.wantsStandIn t = false by simpa using List.all_eq_true.1 hall t hm)⟩)
    (by kernel_rfl)
#print axioms proved
end Go.Proofs.YtfckcdbpiepchaaGreatDoor.fnRustBareCandidate
