/-
  DERIVED. GIVEN WITH THE SEED: THE CARDS: each row of YtligkeplkillkaaDoorRows.lean that lists a variable, with what it lists TIED to the program's text (the seventh form; the later family's looks); each row that meets fmt, with fmt's text TOLD by the authors' own Lean function (tested against real Go, not proved from fmt's source: count such statements apart). THE CARD IS WHAT COUNTS. Prove the row's statement (the work); the ties are given (YtligkeplkillkaaDoorTie.lean); close each card by the builder's one call (the guide's Derived/Test/ToyasCard.lean, 'card_holds'). Laid BY PROGRAM, IN A SANDBOX (cutbox-door.mjs). By AI agents, Wed Nov 11 2026. No macro, syntax, notation, axiom, sorry.
-/
import Derived.Test.YtligkeplkillkaaDoorRows
import GoSem.ClaimSeven
namespace Go.Proofs.YtligkeplkillkaaDoor
namespace Rows

/-- THE TIED CARD OF 'laws.FnIsNumber'. -/
def fnIsNumberCard : Claim7 := { stood := { row := fnIsNumberRow, standIns := [], harness := (true, "88af6ec3e975835ad64fd8646f25d7c563a5c22cd33bd822513f14fad290fb0b"), looks := false }, kinds := [], alts := [], laidByText := true, laidKinds := [.data], laidTests := true, laidLooks := .later }
def FnIsNumberCardSaid : Prop := Claim7.holds Tryd.pinned (.plain (OpenSpec.ofChange fnIsNumberSpec)) fnIsNumberCard

/-- THE TIED CARD OF 'laws.FnIsSymbol'. -/
def fnIsSymbolCard : Claim7 := { stood := { row := fnIsSymbolRow, standIns := [], harness := (true, "88af6ec3e975835ad64fd8646f25d7c563a5c22cd33bd822513f14fad290fb0b"), looks := false }, kinds := [], alts := [], laidByText := true, laidKinds := [.data], laidTests := true, laidLooks := .later }
def FnIsSymbolCardSaid : Prop := Claim7.holds Tryd.pinned (.plain (OpenSpec.ofChange fnIsSymbolSpec)) fnIsSymbolCard

/-- THE TIED CARD OF 'laws.FnIsLower'. -/
def fnIsLowerCard : Claim7 := { stood := { row := fnIsLowerRow, standIns := [], harness := (true, "88af6ec3e975835ad64fd8646f25d7c563a5c22cd33bd822513f14fad290fb0b"), looks := false }, kinds := [], alts := [], laidByText := true, laidKinds := [.data], laidTests := true, laidLooks := .later }
def FnIsLowerCardSaid : Prop := Claim7.holds Tryd.pinned (.plain (OpenSpec.ofChange fnIsLowerSpec)) fnIsLowerCard

/-- THE TIED CARD OF 'laws.FnIsGraphic'. -/
def fnIsGraphicCard : Claim7 := { stood := { row := fnIsGraphicRow, standIns := [], harness := (true, "88af6ec3e975835ad64fd8646f25d7c563a5c22cd33bd822513f14fad290fb0b"), looks := false }, kinds := [], alts := [], laidByText := true, laidKinds := [.data], laidTests := true, laidLooks := .later }
def FnIsGraphicCardSaid : Prop := Claim7.holds Tryd.pinned (.plain (OpenSpec.ofChange fnIsGraphicSpec)) fnIsGraphicCard

/-- THE SECOND FORM's CARD OF 'laws.FnIsNumber'. -/
def fnIsNumberUptoCard : Claim7 := { stood := { row := fnIsNumberUptoRow, standIns := [], harness := (true, "88af6ec3e975835ad64fd8646f25d7c563a5c22cd33bd822513f14fad290fb0b"), looks := false }, kinds := [], alts := [], laidByText := true, laidKinds := [.data], laidTests := true, laidLooks := .later }
def FnIsNumberUptoCardSaid : Prop := Claim7.holds Tryd.pinned (.plain (OpenSpec.upto fnIsNumberSpec)) fnIsNumberUptoCard

/-- THE SECOND FORM's CARD OF 'laws.FnIsSymbol'. -/
def fnIsSymbolUptoCard : Claim7 := { stood := { row := fnIsSymbolUptoRow, standIns := [], harness := (true, "88af6ec3e975835ad64fd8646f25d7c563a5c22cd33bd822513f14fad290fb0b"), looks := false }, kinds := [], alts := [], laidByText := true, laidKinds := [.data], laidTests := true, laidLooks := .later }
def FnIsSymbolUptoCardSaid : Prop := Claim7.holds Tryd.pinned (.plain (OpenSpec.upto fnIsSymbolSpec)) fnIsSymbolUptoCard

/-- THE SECOND FORM's CARD OF 'laws.FnIsLower'. -/
def fnIsLowerUptoCard : Claim7 := { stood := { row := fnIsLowerUptoRow, standIns := [], harness := (true, "88af6ec3e975835ad64fd8646f25d7c563a5c22cd33bd822513f14fad290fb0b"), looks := false }, kinds := [], alts := [], laidByText := true, laidKinds := [.data], laidTests := true, laidLooks := .later }
def FnIsLowerUptoCardSaid : Prop := Claim7.holds Tryd.pinned (.plain (OpenSpec.upto fnIsLowerSpec)) fnIsLowerUptoCard

/-- THE SECOND FORM's CARD OF 'laws.FnIsGraphic'. -/
def fnIsGraphicUptoCard : Claim7 := { stood := { row := fnIsGraphicUptoRow, standIns := [], harness := (true, "88af6ec3e975835ad64fd8646f25d7c563a5c22cd33bd822513f14fad290fb0b"), looks := false }, kinds := [], alts := [], laidByText := true, laidKinds := [.data], laidTests := true, laidLooks := .later }
def FnIsGraphicUptoCardSaid : Prop := Claim7.holds Tryd.pinned (.plain (OpenSpec.upto fnIsGraphicSpec)) fnIsGraphicUptoCard
end Rows
end Go.Proofs.YtligkeplkillkaaDoor
