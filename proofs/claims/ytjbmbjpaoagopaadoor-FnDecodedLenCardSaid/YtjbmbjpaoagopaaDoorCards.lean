/-
  DERIVED. GIVEN WITH THE SEED: THE CARDS: each row of YtjbmbjpaoagopaaDoorRows.lean that lists a variable, with what it lists TIED to the program's text (the seventh form; the later family's looks); each row that meets fmt, with fmt's text TOLD by the authors' own Lean function (tested against real Go, not proved from fmt's source: count such statements apart). THE CARD IS WHAT COUNTS. Prove the row's statement (the work); the ties are given (YtjbmbjpaoagopaaDoorTie.lean); close each card by the builder's one call (the guide's Derived/Test/ToyasCard.lean, 'card_holds'). Laid BY PROGRAM, IN A SANDBOX (cutbox-door.mjs). By AI agents, Wed Nov 11 2026. No macro, syntax, notation, axiom, sorry.
-/
import Derived.Test.YtjbmbjpaoagopaaDoorRows
import GoSem.ClaimSeven
namespace Go.Proofs.YtjbmbjpaoagopaaDoor
namespace Rows

/-- THE TIED CARD OF 'laws.FnDecodedLen'. -/
def fnDecodedLenCard : Claim7 := { stood := { row := fnDecodedLenRow, standIns := [], harness := (true, "12681c4ab72f61e790c8fe8be3e6eac894150a57b229fe60716ac13e50d0268a"), looks := true }, kinds := [], alts := [], laidByText := true, laidKinds := [.sentinel, .sentinel, .sentinel], laidTests := true, laidLooks := .later }
def FnDecodedLenCardSaid : Prop := Claim7.holds Tryd.pinned (.plain (OpenSpec.ofChange fnDecodedLenSpec)) fnDecodedLenCard

/-- THE SECOND FORM's CARD OF 'laws.FnDecodedLen'. -/
def fnDecodedLenUptoCard : Claim7 := { stood := { row := fnDecodedLenUptoRow, standIns := [], harness := (true, "12681c4ab72f61e790c8fe8be3e6eac894150a57b229fe60716ac13e50d0268a"), looks := true }, kinds := [], alts := [], laidByText := true, laidKinds := [.sentinel, .sentinel, .sentinel], laidTests := true, laidLooks := .later }
def FnDecodedLenUptoCardSaid : Prop := Claim7.holds Tryd.pinned (.plain (OpenSpec.upto fnDecodedLenSpec)) fnDecodedLenUptoCard
end Rows
end Go.Proofs.YtjbmbjpaoagopaaDoor
