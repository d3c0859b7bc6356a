/-
  DERIVED. GIVEN WITH THE SEED: THE CARDS: each row of YtodbfgomkcmdgaaDoorRows.lean that lists a variable, with what it lists TIED to the program's text (the seventh form; the later family's looks); each row that meets fmt, with fmt's text TOLD by the authors' own Lean function (tested against real Go, not proved from fmt's source: count such statements apart). THE CARD IS WHAT COUNTS. Prove the row's statement (the work); the ties are given (YtodbfgomkcmdgaaDoorTie.lean); close each card by the builder's one call (the guide's Derived/Test/ToyasCard.lean, 'card_holds'). Laid BY PROGRAM, IN A SANDBOX (cutbox-door.mjs). By AI agents, Wed Nov 11 2026. No macro, syntax, notation, axiom, sorry.
-/
import Derived.Test.YtodbfgomkcmdgaaDoorRows
import GoSem.ClaimSeven
namespace Go.Proofs.YtodbfgomkcmdgaaDoor
namespace Rows

/-- THE TIED CARD OF 'laws.FnDecodeKeeps'. -/
def fnDecodeKeepsCard : Claim7 := { stood := { row := fnDecodeKeepsRow, standIns := [], harness := (true, "40e56dbd76d861bb4263d74d919ab16ad92233b95abc4c70f783fcee5adeed5c"), looks := true }, kinds := [], alts := [], laidByText := true, laidKinds := [.sentinel, .sentinel, .sentinel], laidTests := true, laidLooks := .later }
def FnDecodeKeepsCardSaid : Prop := Claim7.holds Tryd.pinned (.plain (OpenSpec.ofChange fnDecodeKeepsSpec)) fnDecodeKeepsCard

/-- THE TIED CARD OF 'laws.FnCutWritten'. -/
def fnCutWrittenCard : Claim7 := { stood := { row := fnCutWrittenRow, standIns := [], harness := (true, "40e56dbd76d861bb4263d74d919ab16ad92233b95abc4c70f783fcee5adeed5c"), looks := true }, kinds := [], alts := [], laidByText := true, laidKinds := [.sentinel, .sentinel, .sentinel, .sentinel], laidTests := true, laidLooks := .later }
def FnCutWrittenCardSaid : Prop := Claim7.holds Tryd.pinned (.plain (OpenSpec.ofChange fnCutWrittenSpec)) fnCutWrittenCard

/-- THE TIED CARD OF 'laws.FnDecode'. -/
def fnDecodeCard : Claim7 := { stood := { row := fnDecodeRow, standIns := [], harness := (true, "40e56dbd76d861bb4263d74d919ab16ad92233b95abc4c70f783fcee5adeed5c"), looks := true }, kinds := [], alts := [], laidByText := true, laidKinds := [.sentinel, .sentinel, .sentinel, .sentinel], laidTests := true, laidLooks := .later }
def FnDecodeCardSaid : Prop := Claim7.holds Tryd.pinned (.plain (OpenSpec.ofChange fnDecodeSpec)) fnDecodeCard

/-- THE TIED CARD OF 'laws.FnDecodeRoom'. -/
def fnDecodeRoomCard : Claim7 := { stood := { row := fnDecodeRoomRow, standIns := [], harness := (true, "40e56dbd76d861bb4263d74d919ab16ad92233b95abc4c70f783fcee5adeed5c"), looks := true }, kinds := [], alts := [], laidByText := true, laidKinds := [.sentinel, .sentinel, .sentinel, .sentinel], laidTests := true, laidLooks := .later }
def FnDecodeRoomCardSaid : Prop := Claim7.holds Tryd.pinned (.plain (OpenSpec.ofChange fnDecodeRoomSpec)) fnDecodeRoomCard

/-- THE TIED CARD OF 'laws.FnLength'. -/
def fnLengthCard : Claim7 := { stood := { row := fnLengthRow, standIns := [], harness := (true, "40e56dbd76d861bb4263d74d919ab16ad92233b95abc4c70f783fcee5adeed5c"), looks := true }, kinds := [], alts := [], laidByText := true, laidKinds := [.sentinel, .sentinel, .sentinel, .sentinel], laidTests := true, laidLooks := .later }
def FnLengthCardSaid : Prop := Claim7.holds Tryd.pinned (.plain (OpenSpec.ofChange fnLengthSpec)) fnLengthCard

/-- THE TIED CARD OF 'laws.FnLiteral'. -/
def fnLiteralCard : Claim7 := { stood := { row := fnLiteralRow, standIns := [], harness := (true, "40e56dbd76d861bb4263d74d919ab16ad92233b95abc4c70f783fcee5adeed5c"), looks := true }, kinds := [], alts := [], laidByText := true, laidKinds := [.sentinel, .sentinel, .sentinel, .sentinel], laidTests := true, laidLooks := .later }
def FnLiteralCardSaid : Prop := Claim7.holds Tryd.pinned (.plain (OpenSpec.ofChange fnLiteralSpec)) fnLiteralCard

/-- THE TIED CARD OF 'laws.FnMore'. -/
def fnMoreCard : Claim7 := { stood := { row := fnMoreRow, standIns := [], harness := (true, "40e56dbd76d861bb4263d74d919ab16ad92233b95abc4c70f783fcee5adeed5c"), looks := true }, kinds := [], alts := [], laidByText := true, laidKinds := [.sentinel, .sentinel, .sentinel, .sentinel], laidTests := true, laidLooks := .later }
def FnMoreCardSaid : Prop := Claim7.holds Tryd.pinned (.plain (OpenSpec.ofChange fnMoreSpec)) fnMoreCard

/-- THE TIED CARD OF 'laws.FnOffset'. -/
def fnOffsetCard : Claim7 := { stood := { row := fnOffsetRow, standIns := [], harness := (true, "40e56dbd76d861bb4263d74d919ab16ad92233b95abc4c70f783fcee5adeed5c"), looks := true }, kinds := [], alts := [], laidByText := true, laidKinds := [.sentinel, .sentinel, .sentinel, .sentinel], laidTests := true, laidLooks := .later }
def FnOffsetCardSaid : Prop := Claim7.holds Tryd.pinned (.plain (OpenSpec.ofChange fnOffsetSpec)) fnOffsetCard

/-- THE TIED CARD OF 'laws.FnRun'. -/
def fnRunCard : Claim7 := { stood := { row := fnRunRow, standIns := [], harness := (true, "40e56dbd76d861bb4263d74d919ab16ad92233b95abc4c70f783fcee5adeed5c"), looks := true }, kinds := [], alts := [], laidByText := true, laidKinds := [.sentinel, .sentinel, .sentinel, .sentinel], laidTests := true, laidLooks := .later }
def FnRunCardSaid : Prop := Claim7.holds Tryd.pinned (.plain (OpenSpec.ofChange fnRunSpec)) fnRunCard

/-- THE TIED CARD OF 'laws.FnSpelled'. -/
def fnSpelledCard : Claim7 := { stood := { row := fnSpelledRow, standIns := [], harness := (true, "40e56dbd76d861bb4263d74d919ab16ad92233b95abc4c70f783fcee5adeed5c"), looks := true }, kinds := [], alts := [], laidByText := true, laidKinds := [.sentinel, .sentinel, .sentinel, .sentinel], laidTests := true, laidLooks := .later }
def FnSpelledCardSaid : Prop := Claim7.holds Tryd.pinned (.plain (OpenSpec.ofChange fnSpelledSpec)) fnSpelledCard

/-- THE TIED CARD OF 'laws.FnWritten'. -/
def fnWrittenCard : Claim7 := { stood := { row := fnWrittenRow, standIns := [], harness := (true, "40e56dbd76d861bb4263d74d919ab16ad92233b95abc4c70f783fcee5adeed5c"), looks := true }, kinds := [], alts := [], laidByText := true, laidKinds := [.sentinel, .sentinel, .sentinel, .sentinel], laidTests := true, laidLooks := .later }
def FnWrittenCardSaid : Prop := Claim7.holds Tryd.pinned (.plain (OpenSpec.ofChange fnWrittenSpec)) fnWrittenCard

/-- THE TIED CARD OF 'laws.FnDecodedLenText'. -/
def fnDecodedLenTextCard : Claim7 := { stood := { row := fnDecodedLenTextRow, standIns := [], harness := (true, "40e56dbd76d861bb4263d74d919ab16ad92233b95abc4c70f783fcee5adeed5c"), looks := true }, kinds := [], alts := [], laidByText := true, laidKinds := [.sentinel, .sentinel, .sentinel, .sentinel], laidTests := true, laidLooks := .later }
def FnDecodedLenTextCardSaid : Prop := Claim7.holds Tryd.pinned (.plain (OpenSpec.ofChange fnDecodedLenTextSpec)) fnDecodedLenTextCard

/-- THE SECOND FORM's CARD OF 'laws.FnDecodeKeeps'. -/
def fnDecodeKeepsUptoCard : Claim7 := { stood := { row := fnDecodeKeepsUptoRow, standIns := [], harness := (true, "40e56dbd76d861bb4263d74d919ab16ad92233b95abc4c70f783fcee5adeed5c"), looks := true }, kinds := [], alts := [], laidByText := true, laidKinds := [.sentinel, .sentinel, .sentinel], laidTests := true, laidLooks := .later }
def FnDecodeKeepsUptoCardSaid : Prop := Claim7.holds Tryd.pinned (.plain (OpenSpec.upto fnDecodeKeepsSpec)) fnDecodeKeepsUptoCard

/-- THE SECOND FORM's CARD OF 'laws.FnCutWritten'. -/
def fnCutWrittenUptoCard : Claim7 := { stood := { row := fnCutWrittenUptoRow, standIns := [], harness := (true, "40e56dbd76d861bb4263d74d919ab16ad92233b95abc4c70f783fcee5adeed5c"), looks := true }, kinds := [], alts := [], laidByText := true, laidKinds := [.sentinel, .sentinel, .sentinel, .sentinel], laidTests := true, laidLooks := .later }
def FnCutWrittenUptoCardSaid : Prop := Claim7.holds Tryd.pinned (.plain (OpenSpec.upto fnCutWrittenSpec)) fnCutWrittenUptoCard

/-- THE SECOND FORM's CARD OF 'laws.FnDecode'. -/
def fnDecodeUptoCard : Claim7 := { stood := { row := fnDecodeUptoRow, standIns := [], harness := (true, "40e56dbd76d861bb4263d74d919ab16ad92233b95abc4c70f783fcee5adeed5c"), looks := true }, kinds := [], alts := [], laidByText := true, laidKinds := [.sentinel, .sentinel, .sentinel, .sentinel], laidTests := true, laidLooks := .later }
def FnDecodeUptoCardSaid : Prop := Claim7.holds Tryd.pinned (.plain (OpenSpec.upto fnDecodeSpec)) fnDecodeUptoCard

/-- THE SECOND FORM's CARD OF 'laws.FnDecodeRoom'. -/
def fnDecodeRoomUptoCard : Claim7 := { stood := { row := fnDecodeRoomUptoRow, standIns := [], harness := (true, "40e56dbd76d861bb4263d74d919ab16ad92233b95abc4c70f783fcee5adeed5c"), looks := true }, kinds := [], alts := [], laidByText := true, laidKinds := [.sentinel, .sentinel, .sentinel, .sentinel], laidTests := true, laidLooks := .later }
def FnDecodeRoomUptoCardSaid : Prop := Claim7.holds Tryd.pinned (.plain (OpenSpec.upto fnDecodeRoomSpec)) fnDecodeRoomUptoCard

/-- THE SECOND FORM's CARD OF 'laws.FnLength'. -/
def fnLengthUptoCard : Claim7 := { stood := { row := fnLengthUptoRow, standIns := [], harness := (true, "40e56dbd76d861bb4263d74d919ab16ad92233b95abc4c70f783fcee5adeed5c"), looks := true }, kinds := [], alts := [], laidByText := true, laidKinds := [.sentinel, .sentinel, .sentinel, .sentinel], laidTests := true, laidLooks := .later }
def FnLengthUptoCardSaid : Prop := Claim7.holds Tryd.pinned (.plain (OpenSpec.upto fnLengthSpec)) fnLengthUptoCard

/-- THE SECOND FORM's CARD OF 'laws.FnLiteral'. -/
def fnLiteralUptoCard : Claim7 := { stood := { row := fnLiteralUptoRow, standIns := [], harness := (true, "40e56dbd76d861bb4263d74d919ab16ad92233b95abc4c70f783fcee5adeed5c"), looks := true }, kinds := [], alts := [], laidByText := true, laidKinds := [.sentinel, .sentinel, .sentinel, .sentinel], laidTests := true, laidLooks := .later }
def FnLiteralUptoCardSaid : Prop := Claim7.holds Tryd.pinned (.plain (OpenSpec.upto fnLiteralSpec)) fnLiteralUptoCard

/-- THE SECOND FORM's CARD OF 'laws.FnMore'. -/
def fnMoreUptoCard : Claim7 := { stood := { row := fnMoreUptoRow, standIns := [], harness := (true, "40e56dbd76d861bb4263d74d919ab16ad92233b95abc4c70f783fcee5adeed5c"), looks := true }, kinds := [], alts := [], laidByText := true, laidKinds := [.sentinel, .sentinel, .sentinel, .sentinel], laidTests := true, laidLooks := .later }
def FnMoreUptoCardSaid : Prop := Claim7.holds Tryd.pinned (.plain (OpenSpec.upto fnMoreSpec)) fnMoreUptoCard

/-- THE SECOND FORM's CARD OF 'laws.FnOffset'. -/
def fnOffsetUptoCard : Claim7 := { stood := { row := fnOffsetUptoRow, standIns := [], harness := (true, "40e56dbd76d861bb4263d74d919ab16ad92233b95abc4c70f783fcee5adeed5c"), looks := true }, kinds := [], alts := [], laidByText := true, laidKinds := [.sentinel, .sentinel, .sentinel, .sentinel], laidTests := true, laidLooks := .later }
def FnOffsetUptoCardSaid : Prop := Claim7.holds Tryd.pinned (.plain (OpenSpec.upto fnOffsetSpec)) fnOffsetUptoCard

/-- THE SECOND FORM's CARD OF 'laws.FnRun'. -/
def fnRunUptoCard : Claim7 := { stood := { row := fnRunUptoRow, standIns := [], harness := (true, "40e56dbd76d861bb4263d74d919ab16ad92233b95abc4c70f783fcee5adeed5c"), looks := true }, kinds := [], alts := [], laidByText := true, laidKinds := [.sentinel, .sentinel, .sentinel, .sentinel], laidTests := true, laidLooks := .later }
def FnRunUptoCardSaid : Prop := Claim7.holds Tryd.pinned (.plain (OpenSpec.upto fnRunSpec)) fnRunUptoCard

/-- THE SECOND FORM's CARD OF 'laws.FnSpelled'. -/
def fnSpelledUptoCard : Claim7 := { stood := { row := fnSpelledUptoRow, standIns := [], harness := (true, "40e56dbd76d861bb4263d74d919ab16ad92233b95abc4c70f783fcee5adeed5c"), looks := true }, kinds := [], alts := [], laidByText := true, laidKinds := [.sentinel, .sentinel, .sentinel, .sentinel], laidTests := true, laidLooks := .later }
def FnSpelledUptoCardSaid : Prop := Claim7.holds Tryd.pinned (.plain (OpenSpec.upto fnSpelledSpec)) fnSpelledUptoCard

/-- THE SECOND FORM's CARD OF 'laws.FnWritten'. -/
def fnWrittenUptoCard : Claim7 := { stood := { row := fnWrittenUptoRow, standIns := [], harness := (true, "40e56dbd76d861bb4263d74d919ab16ad92233b95abc4c70f783fcee5adeed5c"), looks := true }, kinds := [], alts := [], laidByText := true, laidKinds := [.sentinel, .sentinel, .sentinel, .sentinel], laidTests := true, laidLooks := .later }
def FnWrittenUptoCardSaid : Prop := Claim7.holds Tryd.pinned (.plain (OpenSpec.upto fnWrittenSpec)) fnWrittenUptoCard

/-- THE SECOND FORM's CARD OF 'laws.FnDecodedLenText'. -/
def fnDecodedLenTextUptoCard : Claim7 := { stood := { row := fnDecodedLenTextUptoRow, standIns := [], harness := (true, "40e56dbd76d861bb4263d74d919ab16ad92233b95abc4c70f783fcee5adeed5c"), looks := true }, kinds := [], alts := [], laidByText := true, laidKinds := [.sentinel, .sentinel, .sentinel, .sentinel], laidTests := true, laidLooks := .later }
def FnDecodedLenTextUptoCardSaid : Prop := Claim7.holds Tryd.pinned (.plain (OpenSpec.upto fnDecodedLenTextSpec)) fnDecodedLenTextUptoCard
end Rows
end Go.Proofs.YtodbfgomkcmdgaaDoor
