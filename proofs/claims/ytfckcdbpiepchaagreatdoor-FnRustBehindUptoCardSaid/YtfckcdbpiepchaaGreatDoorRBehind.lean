/-
  FnRustBehind: the path of the crate that asked for the code, behind the name, is not told. The row and its card, for arguments of at most 1048576 values and letters together: at whatever such input the law returns true, and its arguments and the variables read as before; the listed tables are as the program's text lays them.
-/
import Derived.Test.YtfckcdbpiepchaaGreatDoorTie
import Derived.Test.YtfckcdbpiepchaaGreatDoorCards
import Derived.Test.YtfckcdbpiepchaaGreatDoorRBehindB
namespace Go.Proofs.YtfckcdbpiepchaaGreatDoor.fnRustBehind
set_option linter.all false
open Go.ChangeShapes Go.WideShapes Go.ChangeAt Go.RowKit

/-- the tied card -/
theorem proved : Rows.FnRustBehindUptoCardSaid :=
  Claim7.holds_tied_plain_at .later [] _ _ _ _ over (fun _ h => by cases h) (by kernel_rfl) (fun _ h => by cases h) fnRustBehindUpto_row_tie rfl ⟨rfl, rfl⟩ (by kernel_rfl) rfl
    (fun f fn hf hfn => by
      obtain rfl : f = 7 := Option.some.inj ((show Tryz.prog.funcNamed "loop.example/pub-g01453/laws.FnRustBehind" = some 7 by kernel_rfl).symm.trans hf) |>.symm
      obtain rfl : fn = Tryz.f7 := (Option.some.inj (Tryz.func7.symm.trans hfn)).symm
      exact ⟨by kernel_rfl, fun j t ht => by
        rw [Tryz.params7] at ht
        have hm : t ∈ [28, 28, 38] := by simpa using Array.mem_of_getElem? ht
        have hall : ([28, 28, 38].all fun u => !Tryz.prog.wantsStandIn u) = true := by kernel_rfl
        exact (show Tryz.prog.wantsStandIn t = false by simpa using List.all_eq_true.1 hall t hm)⟩)
    (by kernel_rfl)
#print axioms proved
end Go.Proofs.YtfckcdbpiepchaaGreatDoor.fnRustBehind
