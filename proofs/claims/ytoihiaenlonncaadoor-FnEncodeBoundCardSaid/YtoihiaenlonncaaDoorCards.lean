/-
  DERIVED. GIVEN WITH THE SEED: THE CARDS: each row of YtoihiaenlonncaaDoorRows.lean that lists a variable, with what it lists TIED to the program's text (the seventh form; the later family's looks); each row that meets fmt, with fmt's text TOLD by the authors' own Lean function (tested against real Go, not proved from fmt's source: count such statements apart). THE CARD IS WHAT COUNTS. Prove the row's statement (the work); the ties are given (YtoihiaenlonncaaDoorTie.lean); close each card by the builder's one call (the guide's Derived/Test/ToyasCard.lean, 'card_holds'). Laid BY PROGRAM, IN A SANDBOX (cutbox-door.mjs). By AI agents, Wed Nov 11 2026. No macro, syntax, notation, axiom, sorry.
-/
import Derived.Test.YtoihiaenlonncaaDoorRows
import GoSem.ClaimSeven
namespace Go.Proofs.YtoihiaenlonncaaDoor
namespace Rows

/-- THE TIED CARD OF 'laws.FnEncodeHead'. -/
def fnEncodeHeadCard : Claim7 := { stood := { row := fnEncodeHeadRow, standIns := [], harness := (true, "a0e306d2edf276dbd66e0a7497bbd18776bbdde9c8461353af56dc7f426f7991"), looks := false }, kinds := [], alts := [], laidByText := true, laidKinds := [.sentinel], laidTests := true, laidLooks := .later }
def FnEncodeHeadCardSaid : Prop := Claim7.holds Tryd.pinned (.plain (OpenSpec.ofChange fnEncodeHeadSpec)) fnEncodeHeadCard

/-- THE TIED CARD OF 'laws.FnEncodeRead'. -/
def fnEncodeReadCard : Claim7 := { stood := { row := fnEncodeReadRow, standIns := [], harness := (true, "a0e306d2edf276dbd66e0a7497bbd18776bbdde9c8461353af56dc7f426f7991"), looks := false }, kinds := [], alts := [], laidByText := true, laidKinds := [.sentinel], laidTests := true, laidLooks := .later }
def FnEncodeReadCardSaid : Prop := Claim7.holds Tryd.pinned (.plain (OpenSpec.ofChange fnEncodeReadSpec)) fnEncodeReadCard

/-- THE TIED CARD OF 'laws.FnExactEmpty'. -/
def fnExactEmptyCard : Claim7 := { stood := { row := fnExactEmptyRow, standIns := [], harness := (true, "a0e306d2edf276dbd66e0a7497bbd18776bbdde9c8461353af56dc7f426f7991"), looks := false }, kinds := [], alts := [], laidByText := true, laidKinds := [.sentinel], laidTests := true, laidLooks := .later }
def FnExactEmptyCardSaid : Prop := Claim7.holds Tryd.pinned (.plain (OpenSpec.ofChange fnExactEmptySpec)) fnExactEmptyCard

/-- THE TIED CARD OF 'laws.FnEncodeKeeps'. -/
def fnEncodeKeepsCard : Claim7 := { stood := { row := fnEncodeKeepsRow, standIns := [], harness := (true, "a0e306d2edf276dbd66e0a7497bbd18776bbdde9c8461353af56dc7f426f7991"), looks := false }, kinds := [], alts := [], laidByText := true, laidKinds := [.sentinel], laidTests := true, laidLooks := .later }
def FnEncodeKeepsCardSaid : Prop := Claim7.holds Tryd.pinned (.plain (OpenSpec.ofChange fnEncodeKeepsSpec)) fnEncodeKeepsCard

/-- THE TIED CARD OF 'laws.FnEncodeBound'. -/
def fnEncodeBoundCard : Claim7 := { stood := { row := fnEncodeBoundRow, standIns := [], harness := (true, "a0e306d2edf276dbd66e0a7497bbd18776bbdde9c8461353af56dc7f426f7991"), looks := false }, kinds := [], alts := [], laidByText := true, laidKinds := [.sentinel], laidTests := true, laidLooks := .later }
def FnEncodeBoundCardSaid : Prop := Claim7.holds Tryd.pinned (.plain (OpenSpec.ofChange fnEncodeBoundSpec)) fnEncodeBoundCard

/-- THE SECOND FORM's CARD OF 'laws.FnEncodeHead'. -/
def fnEncodeHeadUptoCard : Claim7 := { stood := { row := fnEncodeHeadUptoRow, standIns := [], harness := (true, "a0e306d2edf276dbd66e0a7497bbd18776bbdde9c8461353af56dc7f426f7991"), looks := false }, kinds := [], alts := [], laidByText := true, laidKinds := [.sentinel], laidTests := true, laidLooks := .later }
def FnEncodeHeadUptoCardSaid : Prop := Claim7.holds Tryd.pinned (.plain (OpenSpec.upto fnEncodeHeadSpec)) fnEncodeHeadUptoCard

/-- THE SECOND FORM's CARD OF 'laws.FnEncodeRead'. -/
def fnEncodeReadUptoCard : Claim7 := { stood := { row := fnEncodeReadUptoRow, standIns := [], harness := (true, "a0e306d2edf276dbd66e0a7497bbd18776bbdde9c8461353af56dc7f426f7991"), looks := false }, kinds := [], alts := [], laidByText := true, laidKinds := [.sentinel], laidTests := true, laidLooks := .later }
def FnEncodeReadUptoCardSaid : Prop := Claim7.holds Tryd.pinned (.plain (OpenSpec.upto fnEncodeReadSpec)) fnEncodeReadUptoCard

/-- THE SECOND FORM's CARD OF 'laws.FnExactEmpty'. -/
def fnExactEmptyUptoCard : Claim7 := { stood := { row := fnExactEmptyUptoRow, standIns := [], harness := (true, "a0e306d2edf276dbd66e0a7497bbd18776bbdde9c8461353af56dc7f426f7991"), looks := false }, kinds := [], alts := [], laidByText := true, laidKinds := [.sentinel], laidTests := true, laidLooks := .later }
def FnExactEmptyUptoCardSaid : Prop := Claim7.holds Tryd.pinned (.plain (OpenSpec.upto fnExactEmptySpec)) fnExactEmptyUptoCard

/-- THE SECOND FORM's CARD OF 'laws.FnEncodeKeeps'. -/
def fnEncodeKeepsUptoCard : Claim7 := { stood := { row := fnEncodeKeepsUptoRow, standIns := [], harness := (true, "a0e306d2edf276dbd66e0a7497bbd18776bbdde9c8461353af56dc7f426f7991"), looks := false }, kinds := [], alts := [], laidByText := true, laidKinds := [.sentinel], laidTests := true, laidLooks := .later }
def FnEncodeKeepsUptoCardSaid : Prop := Claim7.holds Tryd.pinned (.plain (OpenSpec.upto fnEncodeKeepsSpec)) fnEncodeKeepsUptoCard

/-- THE SECOND FORM's CARD OF 'laws.FnEncodeBound'. -/
def fnEncodeBoundUptoCard : Claim7 := { stood := { row := fnEncodeBoundUptoRow, standIns := [], harness := (true, "a0e306d2edf276dbd66e0a7497bbd18776bbdde9c8461353af56dc7f426f7991"), looks := false }, kinds := [], alts := [], laidByText := true, laidKinds := [.sentinel], laidTests := true, laidLooks := .later }
def FnEncodeBoundUptoCardSaid : Prop := Claim7.holds Tryd.pinned (.plain (OpenSpec.upto fnEncodeBoundSpec)) fnEncodeBoundUptoCard
end Rows
end Go.Proofs.YtoihiaenlonncaaDoor
