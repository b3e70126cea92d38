/-
  DERIVED. GIVEN WITH THE SEED: THE CARDS: each row of YtiiicmfobljnaaaDoorRows.lean that lists a variable, with what it lists TIED to the program's text (the seventh form; the later family's looks); each row that meets fmt, with fmt's text TOLD by the authors' own Lean function (tested against real Go, not proved from fmt's source: count such statements apart). THE CARD IS WHAT COUNTS. Prove the row's statement (the work); the ties are given (YtiiicmfobljnaaaDoorTie.lean); close each card by the builder's one call (the guide's Derived/Test/ToyasCard.lean, 'card_holds'). Laid BY PROGRAM, IN A SANDBOX (cutbox-door.mjs). By AI agents, Wed Nov 11 2026. No macro, syntax, notation, axiom, sorry.
-/
import Derived.Test.YtiiicmfobljnaaaDoorRows
import GoSem.ClaimSeven
namespace Go.Proofs.YtiiicmfobljnaaaDoor
namespace Rows

/-- THE TIED CARD OF 'laws.FnUnitConvert'. -/
def fnUnitConvertCard : Claim7 := { stood := { row := fnUnitConvertRow, standIns := [], harness := (true, "e5c845deb5d5105b4b16b7e9b05b1cce3bfb80d67df84c1fd0b84b4e8f803bc7"), looks := false }, kinds := [], alts := [], laidByText := true, laidKinds := [.data], laidTests := true, laidLooks := .later }
def FnUnitConvertCardSaid : Prop := Claim7.holds Tryd.pinned (.plain (OpenSpec.ofChange fnUnitConvertSpec)) fnUnitConvertCard

/-- THE SECOND FORM's CARD OF 'laws.FnUnitConvert'. -/
def fnUnitConvertUptoCard : Claim7 := { stood := { row := fnUnitConvertUptoRow, standIns := [], harness := (true, "e5c845deb5d5105b4b16b7e9b05b1cce3bfb80d67df84c1fd0b84b4e8f803bc7"), looks := false }, kinds := [], alts := [], laidByText := true, laidKinds := [.data], laidTests := true, laidLooks := .later }
def FnUnitConvertUptoCardSaid : Prop := Claim7.holds Tryd.pinned (.plain (OpenSpec.upto fnUnitConvertSpec)) fnUnitConvertUptoCard
end Rows
end Go.Proofs.YtiiicmfobljnaaaDoor
