/-
  DERIVED. GIVEN WITH THE SEED: THE CARDS: each row of YtonnmongipaheaaGreatDoorRows.lean that lists a variable, with what it lists TIED to the program's text (the seventh form; the later family's looks); each row that meets fmt, with fmt's text TOLD by the authors' own Lean function (tested against real Go, not proved from fmt's source: count such statements apart). THE CARD IS WHAT COUNTS. Prove the row's statement (the work); the ties are given (YtonnmongipaheaaGreatDoorTie.lean); close each card by the builder's one call (the guide's Derived/Test/ToyasCard.lean, 'card_holds'). Laid BY PROGRAM, IN A SANDBOX (cutbox-door.mjs). By AI agents, Wed Nov 11 2026. No macro, syntax, notation, axiom, sorry.
-/
import Derived.Test.YtonnmongipaheaaGreatDoorRows
import GoSem.ClaimSeven
namespace Go.Proofs.YtonnmongipaheaaGreatDoor
namespace Rows

/-- THE TIED CARD OF 'laws.FnAsFloatTold'. -/
def fnAsFloatToldCard : Claim7 := { stood := { row := fnAsFloatToldRow, standIns := [], harness := (true, "33cbfdf3db058102a5130ea03d8974430e7f6c05b6790e748e1100b897563251"), looks := true }, kinds := [], alts := [], laidByText := true, laidKinds := [.data, .data, .widerDeep, .widerDeep, .data, .data, .data, .data, .data, .sentinel, .sentinel, .pinned, .pinned], laidTests := true, laidLooks := .later }
def FnAsFloatToldCardSaid : Prop := Claim7.holds Tryz.pinned (.plain (OpenSpec.ofChange fnAsFloatToldSpec)) fnAsFloatToldCard

/-- THE SECOND FORM's CARD OF 'laws.FnAsFloatTold'. -/
def fnAsFloatToldUptoCard : Claim7 := { stood := { row := fnAsFloatToldUptoRow, standIns := [], harness := (true, "33cbfdf3db058102a5130ea03d8974430e7f6c05b6790e748e1100b897563251"), looks := true }, kinds := [], alts := [], laidByText := true, laidKinds := [.data, .data, .widerDeep, .widerDeep, .data, .data, .data, .data, .data, .sentinel, .sentinel, .pinned, .pinned], laidTests := true, laidLooks := .later }
def FnAsFloatToldUptoCardSaid : Prop := Claim7.holds Tryz.pinned (.plain (OpenSpec.upto fnAsFloatToldSpec)) fnAsFloatToldUptoCard
end Rows
end Go.Proofs.YtonnmongipaheaaGreatDoor
