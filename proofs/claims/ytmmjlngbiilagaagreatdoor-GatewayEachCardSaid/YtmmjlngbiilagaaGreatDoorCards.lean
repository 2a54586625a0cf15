/-
  DERIVED. GIVEN WITH THE SEED: THE CARDS: each row of YtmmjlngbiilagaaGreatDoorRows.lean that lists a variable, with what it lists TIED to the program's text (the seventh form; the later family's looks); each row that meets fmt, with fmt's text TOLD by the authors' own Lean function (tested against real Go, not proved from fmt's source: count such statements apart). THE CARD IS WHAT COUNTS. Prove the row's statement (the work); the ties are given (YtmmjlngbiilagaaGreatDoorTie.lean); close each card by the builder's one call (the guide's Derived/Test/ToyasCard.lean, 'card_holds'). Laid BY PROGRAM, IN A SANDBOX (cutbox-door.mjs). By AI agents, Wed Nov 11 2026. No macro, syntax, notation, axiom, sorry.
-/
import Derived.Test.YtmmjlngbiilagaaGreatDoorRows
import GoSem.ClaimSeven
namespace Go.Proofs.YtmmjlngbiilagaaGreatDoor
namespace Rows

/-- THE TIED CARD OF 'girolaw50.GatewayEach'. -/
def gatewayEachCard : Claim7 := { stood := { row := gatewayEachRow, standIns := [], harness := (true, "7d613d6a83ae8c94d90c8a2875bb12cc2ab21391bb2c7d7a66a1e83a9af6562e"), looks := true }, kinds := [], alts := [], goes := true, laidByText := true, laidKinds := [.data, .data, .data, .handle, .funcsDeep], laidTests := true, laidLooks := .later }
def GatewayEachCardSaid : Prop := Claim7.holds Tryz.pinned (.plain (OpenSpec.ofChange gatewayEachSpec)) gatewayEachCard

/-- THE SECOND FORM's CARD OF 'girolaw50.GatewayEach'. -/
def gatewayEachUptoCard : Claim7 := { stood := { row := gatewayEachUptoRow, standIns := [], harness := (true, "7d613d6a83ae8c94d90c8a2875bb12cc2ab21391bb2c7d7a66a1e83a9af6562e"), looks := true }, kinds := [], alts := [], goes := true, laidByText := true, laidKinds := [.data, .data, .data, .handle, .funcsDeep], laidTests := true, laidLooks := .later }
def GatewayEachUptoCardSaid : Prop := Claim7.holds Tryz.pinned (.plain (OpenSpec.upto gatewayEachSpec)) gatewayEachUptoCard
end Rows
end Go.Proofs.YtmmjlngbiilagaaGreatDoor
