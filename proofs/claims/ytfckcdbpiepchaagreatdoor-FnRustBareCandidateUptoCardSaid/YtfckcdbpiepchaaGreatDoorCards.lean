/-
  DERIVED. GIVEN WITH THE SEED: THE CARDS: each row of YtfckcdbpiepchaaGreatDoorRows.lean that lists a variable, with what it lists TIED to the program's text (the seventh form; the later family's looks); each row that meets fmt, with fmt's text TOLD by the authors' own Lean function (tested against real Go, not proved from fmt's source: count such statements apart). THE CARD IS WHAT COUNTS. Prove the row's statement (the work); the ties are given (YtfckcdbpiepchaaGreatDoorTie.lean); close each card by the builder's one call (the guide's Derived/Test/ToyasCard.lean, 'card_holds'). Laid BY PROGRAM, IN A SANDBOX (cutbox-door.mjs). By AI agents, Wed Nov 11 2026. No macro, syntax, notation, axiom, sorry.
-/
import Derived.Test.YtfckcdbpiepchaaGreatDoorRows
import GoSem.ClaimSeven
namespace Go.Proofs.YtfckcdbpiepchaaGreatDoor
namespace Rows

/-- THE TIED CARD OF 'laws.FnMaxLengthBounds'. -/
def fnMaxLengthBoundsCard : Claim7 := { stood := { row := fnMaxLengthBoundsRow, standIns := [], harness := (true, "89e0fa671ea1ce061dc596d96c1ee52fb9236f78701a21935f6a57ca545e4171"), looks := true }, kinds := [], alts := [], laidByText := true, laidKinds := [.data, .data, .data, .data, .sentinel, .mapped, .pinned], laidTests := true, laidLooks := .later }
def FnMaxLengthBoundsCardSaid : Prop := Claim7.holds Tryz.pinned (.plain (OpenSpec.ofChange fnMaxLengthBoundsSpec)) fnMaxLengthBoundsCard

/-- THE TIED CARD OF 'laws.FnRustNames'. -/
def fnRustNamesCard : Claim7 := { stood := { row := fnRustNamesRow, standIns := [], harness := (true, "89e0fa671ea1ce061dc596d96c1ee52fb9236f78701a21935f6a57ca545e4171"), looks := true }, kinds := [], alts := [], laidByText := true, laidKinds := [.data, .data, .data, .data, .sentinel, .mapped, .pinned], laidTests := true, laidLooks := .later }
def FnRustNamesCardSaid : Prop := Claim7.holds Tryz.pinned (.plain (OpenSpec.ofChange fnRustNamesSpec)) fnRustNamesCard

/-- THE TIED CARD OF 'laws.FnMaxLengthTree'. -/
def fnMaxLengthTreeCard : Claim7 := { stood := { row := fnMaxLengthTreeRow, standIns := [], harness := (true, "89e0fa671ea1ce061dc596d96c1ee52fb9236f78701a21935f6a57ca545e4171"), looks := true }, kinds := [], alts := [], laidByText := true, laidKinds := [.data, .data, .data, .data, .sentinel, .mapped, .pinned], laidTests := true, laidLooks := .later }
def FnMaxLengthTreeCardSaid : Prop := Claim7.holds Tryz.pinned (.plain (OpenSpec.ofChange fnMaxLengthTreeSpec)) fnMaxLengthTreeCard

/-- THE TIED CARD OF 'laws.FnRustBareCandidate'. -/
def fnRustBareCandidateCard : Claim7 := { stood := { row := fnRustBareCandidateRow, standIns := [], harness := (true, "89e0fa671ea1ce061dc596d96c1ee52fb9236f78701a21935f6a57ca545e4171"), looks := true }, kinds := [], alts := [], laidByText := true, laidKinds := [.data, .data, .data, .data, .sentinel, .mapped, .pinned], laidTests := true, laidLooks := .later }
def FnRustBareCandidateCardSaid : Prop := Claim7.holds Tryz.pinned (.plain (OpenSpec.ofChange fnRustBareCandidateSpec)) fnRustBareCandidateCard

/-- THE TIED CARD OF 'laws.FnRustBehind'. -/
def fnRustBehindCard : Claim7 := { stood := { row := fnRustBehindRow, standIns := [], harness := (true, "89e0fa671ea1ce061dc596d96c1ee52fb9236f78701a21935f6a57ca545e4171"), looks := true }, kinds := [], alts := [], laidByText := true, laidKinds := [.data, .data, .data, .data, .sentinel, .mapped, .pinned], laidTests := true, laidLooks := .later }
def FnRustBehindCardSaid : Prop := Claim7.holds Tryz.pinned (.plain (OpenSpec.ofChange fnRustBehindSpec)) fnRustBehindCard

/-- THE TIED CARD OF 'laws.FnRustNewStyle'. -/
def fnRustNewStyleCard : Claim7 := { stood := { row := fnRustNewStyleRow, standIns := [], harness := (true, "89e0fa671ea1ce061dc596d96c1ee52fb9236f78701a21935f6a57ca545e4171"), looks := true }, kinds := [], alts := [], laidByText := true, laidKinds := [.data, .data, .data, .data, .sentinel, .mapped, .pinned], laidTests := true, laidLooks := .later }
def FnRustNewStyleCardSaid : Prop := Claim7.holds Tryz.pinned (.plain (OpenSpec.ofChange fnRustNewStyleSpec)) fnRustNewStyleCard

/-- THE TIED CARD OF 'laws.FnRustParams'. -/
def fnRustParamsCard : Claim7 := { stood := { row := fnRustParamsRow, standIns := [], harness := (true, "89e0fa671ea1ce061dc596d96c1ee52fb9236f78701a21935f6a57ca545e4171"), looks := true }, kinds := [], alts := [], laidByText := true, laidKinds := [.data, .data, .data, .data, .sentinel, .mapped, .pinned], laidTests := true, laidLooks := .later }
def FnRustParamsCardSaid : Prop := Claim7.holds Tryz.pinned (.plain (OpenSpec.ofChange fnRustParamsSpec)) fnRustParamsCard

/-- THE TIED CARD OF 'laws.FnRustSpelled'. -/
def fnRustSpelledCard : Claim7 := { stood := { row := fnRustSpelledRow, standIns := [], harness := (true, "89e0fa671ea1ce061dc596d96c1ee52fb9236f78701a21935f6a57ca545e4171"), looks := true }, kinds := [], alts := [], laidByText := true, laidKinds := [.data, .data, .data, .data, .sentinel, .mapped, .pinned], laidTests := true, laidLooks := .later }
def FnRustSpelledCardSaid : Prop := Claim7.holds Tryz.pinned (.plain (OpenSpec.ofChange fnRustSpelledSpec)) fnRustSpelledCard

/-- THE TIED CARD OF 'laws.FnRustTemplates'. -/
def fnRustTemplatesCard : Claim7 := { stood := { row := fnRustTemplatesRow, standIns := [], harness := (true, "89e0fa671ea1ce061dc596d96c1ee52fb9236f78701a21935f6a57ca545e4171"), looks := true }, kinds := [], alts := [], laidByText := true, laidKinds := [.data, .data, .data, .data, .sentinel, .mapped, .pinned], laidTests := true, laidLooks := .later }
def FnRustTemplatesCardSaid : Prop := Claim7.holds Tryz.pinned (.plain (OpenSpec.ofChange fnRustTemplatesSpec)) fnRustTemplatesCard

/-- THE TIED CARD OF 'laws.FnRustTold'. -/
def fnRustToldCard : Claim7 := { stood := { row := fnRustToldRow, standIns := [], harness := (true, "89e0fa671ea1ce061dc596d96c1ee52fb9236f78701a21935f6a57ca545e4171"), looks := true }, kinds := [], alts := [], laidByText := true, laidKinds := [.data, .data, .data, .data, .sentinel, .mapped, .pinned], laidTests := true, laidLooks := .later }
def FnRustToldCardSaid : Prop := Claim7.holds Tryz.pinned (.plain (OpenSpec.ofChange fnRustToldSpec)) fnRustToldCard

/-- THE SECOND FORM's CARD OF 'laws.FnMaxLengthBounds'. -/
def fnMaxLengthBoundsUptoCard : Claim7 := { stood := { row := fnMaxLengthBoundsUptoRow, standIns := [], harness := (true, "89e0fa671ea1ce061dc596d96c1ee52fb9236f78701a21935f6a57ca545e4171"), looks := true }, kinds := [], alts := [], laidByText := true, laidKinds := [.data, .data, .data, .data, .sentinel, .mapped, .pinned], laidTests := true, laidLooks := .later }
def FnMaxLengthBoundsUptoCardSaid : Prop := Claim7.holds Tryz.pinned (.plain (OpenSpec.upto fnMaxLengthBoundsSpec)) fnMaxLengthBoundsUptoCard

/-- THE SECOND FORM's CARD OF 'laws.FnRustNames'. -/
def fnRustNamesUptoCard : Claim7 := { stood := { row := fnRustNamesUptoRow, standIns := [], harness := (true, "89e0fa671ea1ce061dc596d96c1ee52fb9236f78701a21935f6a57ca545e4171"), looks := true }, kinds := [], alts := [], laidByText := true, laidKinds := [.data, .data, .data, .data, .sentinel, .mapped, .pinned], laidTests := true, laidLooks := .later }
def FnRustNamesUptoCardSaid : Prop := Claim7.holds Tryz.pinned (.plain (OpenSpec.upto fnRustNamesSpec)) fnRustNamesUptoCard

/-- THE SECOND FORM's CARD OF 'laws.FnMaxLengthTree'. -/
def fnMaxLengthTreeUptoCard : Claim7 := { stood := { row := fnMaxLengthTreeUptoRow, standIns := [], harness := (true, "89e0fa671ea1ce061dc596d96c1ee52fb9236f78701a21935f6a57ca545e4171"), looks := true }, kinds := [], alts := [], laidByText := true, laidKinds := [.data, .data, .data, .data, .sentinel, .mapped, .pinned], laidTests := true, laidLooks := .later }
def FnMaxLengthTreeUptoCardSaid : Prop := Claim7.holds Tryz.pinned (.plain (OpenSpec.upto fnMaxLengthTreeSpec)) fnMaxLengthTreeUptoCard

/-- THE SECOND FORM's CARD OF 'laws.FnRustBareCandidate'. -/
def fnRustBareCandidateUptoCard : Claim7 := { stood := { row := fnRustBareCandidateUptoRow, standIns := [], harness := (true, "89e0fa671ea1ce061dc596d96c1ee52fb9236f78701a21935f6a57ca545e4171"), looks := true }, kinds := [], alts := [], laidByText := true, laidKinds := [.data, .data, .data, .data, .sentinel, .mapped, .pinned], laidTests := true, laidLooks := .later }
def FnRustBareCandidateUptoCardSaid : Prop := Claim7.holds Tryz.pinned (.plain (OpenSpec.upto fnRustBareCandidateSpec)) fnRustBareCandidateUptoCard

/-- THE SECOND FORM's CARD OF 'laws.FnRustBehind'. -/
def fnRustBehindUptoCard : Claim7 := { stood := { row := fnRustBehindUptoRow, standIns := [], harness := (true, "89e0fa671ea1ce061dc596d96c1ee52fb9236f78701a21935f6a57ca545e4171"), looks := true }, kinds := [], alts := [], laidByText := true, laidKinds := [.data, .data, .data, .data, .sentinel, .mapped, .pinned], laidTests := true, laidLooks := .later }
def FnRustBehindUptoCardSaid : Prop := Claim7.holds Tryz.pinned (.plain (OpenSpec.upto fnRustBehindSpec)) fnRustBehindUptoCard

/-- THE SECOND FORM's CARD OF 'laws.FnRustNewStyle'. -/
def fnRustNewStyleUptoCard : Claim7 := { stood := { row := fnRustNewStyleUptoRow, standIns := [], harness := (true, "89e0fa671ea1ce061dc596d96c1ee52fb9236f78701a21935f6a57ca545e4171"), looks := true }, kinds := [], alts := [], laidByText := true, laidKinds := [.data, .data, .data, .data, .sentinel, .mapped, .pinned], laidTests := true, laidLooks := .later }
def FnRustNewStyleUptoCardSaid : Prop := Claim7.holds Tryz.pinned (.plain (OpenSpec.upto fnRustNewStyleSpec)) fnRustNewStyleUptoCard

/-- THE SECOND FORM's CARD OF 'laws.FnRustParams'. -/
def fnRustParamsUptoCard : Claim7 := { stood := { row := fnRustParamsUptoRow, standIns := [], harness := (true, "89e0fa671ea1ce061dc596d96c1ee52fb9236f78701a21935f6a57ca545e4171"), looks := true }, kinds := [], alts := [], laidByText := true, laidKinds := [.data, .data, .data, .data, .sentinel, .mapped, .pinned], laidTests := true, laidLooks := .later }
def FnRustParamsUptoCardSaid : Prop := Claim7.holds Tryz.pinned (.plain (OpenSpec.upto fnRustParamsSpec)) fnRustParamsUptoCard

/-- THE SECOND FORM's CARD OF 'laws.FnRustSpelled'. -/
def fnRustSpelledUptoCard : Claim7 := { stood := { row := fnRustSpelledUptoRow, standIns := [], harness := (true, "89e0fa671ea1ce061dc596d96c1ee52fb9236f78701a21935f6a57ca545e4171"), looks := true }, kinds := [], alts := [], laidByText := true, laidKinds := [.data, .data, .data, .data, .sentinel, .mapped, .pinned], laidTests := true, laidLooks := .later }
def FnRustSpelledUptoCardSaid : Prop := Claim7.holds Tryz.pinned (.plain (OpenSpec.upto fnRustSpelledSpec)) fnRustSpelledUptoCard

/-- THE SECOND FORM's CARD OF 'laws.FnRustTemplates'. -/
def fnRustTemplatesUptoCard : Claim7 := { stood := { row := fnRustTemplatesUptoRow, standIns := [], harness := (true, "89e0fa671ea1ce061dc596d96c1ee52fb9236f78701a21935f6a57ca545e4171"), looks := true }, kinds := [], alts := [], laidByText := true, laidKinds := [.data, .data, .data, .data, .sentinel, .mapped, .pinned], laidTests := true, laidLooks := .later }
def FnRustTemplatesUptoCardSaid : Prop := Claim7.holds Tryz.pinned (.plain (OpenSpec.upto fnRustTemplatesSpec)) fnRustTemplatesUptoCard

/-- THE SECOND FORM's CARD OF 'laws.FnRustTold'. -/
def fnRustToldUptoCard : Claim7 := { stood := { row := fnRustToldUptoRow, standIns := [], harness := (true, "89e0fa671ea1ce061dc596d96c1ee52fb9236f78701a21935f6a57ca545e4171"), looks := true }, kinds := [], alts := [], laidByText := true, laidKinds := [.data, .data, .data, .data, .sentinel, .mapped, .pinned], laidTests := true, laidLooks := .later }
def FnRustToldUptoCardSaid : Prop := Claim7.holds Tryz.pinned (.plain (OpenSpec.upto fnRustToldSpec)) fnRustToldUptoCard
end Rows
end Go.Proofs.YtfckcdbpiepchaaGreatDoor
