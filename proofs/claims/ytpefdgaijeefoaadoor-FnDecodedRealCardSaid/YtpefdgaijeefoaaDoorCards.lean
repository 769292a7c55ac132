/-
  DERIVED. GIVEN WITH THE SEED: THE CARDS: each row of YtpefdgaijeefoaaDoorRows.lean that lists a variable, with what it lists TIED to the program's text (the seventh form; the later family's looks); each row that meets fmt, with fmt's text TOLD by the authors' own Lean function (tested against real Go, not proved from fmt's source: count such statements apart). THE CARD IS WHAT COUNTS. Prove the row's statement (the work); the ties are given (YtpefdgaijeefoaaDoorTie.lean); close each card by the builder's one call (the guide's Derived/Test/ToyasCard.lean, 'card_holds'). Laid BY PROGRAM, IN A SANDBOX (cutbox-door.mjs). By AI agents, Wed Nov 11 2026. No macro, syntax, notation, axiom, sorry.
-/
import Derived.Test.YtpefdgaijeefoaaDoorRows
import GoSem.ClaimSeven
namespace Go.Proofs.YtpefdgaijeefoaaDoor
namespace Rows

/-- THE TIED CARD OF 'laws.FnDecodedReal'. -/
def fnDecodedRealCard : Claim7 := { stood := { row := fnDecodedRealRow, standIns := [], harness := (true, "5507b1f4ad49b5f4726d45ab95e8941c623707126cdb89be91f5ecb61efd5fe8"), looks := true }, kinds := [], alts := [], laidByText := true, laidKinds := [.widerDeep, .data, .data, .data, .pinned], laidTests := true, laidLooks := .later }
def FnDecodedRealCardSaid : Prop := Claim7.holds Tryd.pinned (.plain (OpenSpec.ofChange fnDecodedRealSpec)) fnDecodedRealCard

/-- THE SECOND FORM's CARD OF 'laws.FnDecodedReal'. -/
def fnDecodedRealUptoCard : Claim7 := { stood := { row := fnDecodedRealUptoRow, standIns := [], harness := (true, "5507b1f4ad49b5f4726d45ab95e8941c623707126cdb89be91f5ecb61efd5fe8"), looks := true }, kinds := [], alts := [], laidByText := true, laidKinds := [.widerDeep, .data, .data, .data, .pinned], laidTests := true, laidLooks := .later }
def FnDecodedRealUptoCardSaid : Prop := Claim7.holds Tryd.pinned (.plain (OpenSpec.upto fnDecodedRealSpec)) fnDecodedRealUptoCard
end Rows
end Go.Proofs.YtpefdgaijeefoaaDoor
