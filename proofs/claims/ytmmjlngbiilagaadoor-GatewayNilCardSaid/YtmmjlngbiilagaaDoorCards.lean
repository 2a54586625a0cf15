/-
  DERIVED. GIVEN WITH THE SEED: THE CARDS: each row of YtmmjlngbiilagaaDoorRows.lean that lists a variable, with what it lists TIED to the program's text (the seventh form; the later family's looks); each row that meets fmt, with fmt's text TOLD by the authors' own Lean function (tested against real Go, not proved from fmt's source: count such statements apart). THE CARD IS WHAT COUNTS. Prove the row's statement (the work); the ties are given (YtmmjlngbiilagaaDoorTie.lean); close each card by the builder's one call (the guide's Derived/Test/ToyasCard.lean, 'card_holds'). Laid BY PROGRAM, IN A SANDBOX (cutbox-door.mjs). By AI agents, Wed Nov 11 2026. No macro, syntax, notation, axiom, sorry.
-/
import Derived.Test.YtmmjlngbiilagaaDoorRows
import GoSem.ClaimSeven
namespace Go.Proofs.YtmmjlngbiilagaaDoor
namespace Rows

/-- THE TIED CARD OF 'girolaw50.GatewayNil'. -/
def gatewayNilCard : Claim7 := { stood := { row := gatewayNilRow, standIns := [], harness := (true, "1a30fa4c76f68e1b1a99af26d9373ee06dc987cbf97983127ed45aa77d522fb4"), looks := false }, kinds := [], alts := [], goes := true, laidByText := true, laidKinds := [.data, .data, .data, .funcsDeep], laidTests := true, laidLooks := .later }
def GatewayNilCardSaid : Prop := Claim7.holds Tryd.pinned (.plain (OpenSpec.ofChange gatewayNilSpec)) gatewayNilCard
end Rows
end Go.Proofs.YtmmjlngbiilagaaDoor
