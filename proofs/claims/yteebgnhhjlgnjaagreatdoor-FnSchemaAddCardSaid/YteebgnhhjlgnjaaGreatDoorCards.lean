/-
  DERIVED. GIVEN WITH THE SEED: THE CARDS: each row of YteebgnhhjlgnjaaGreatDoorRows.lean that lists a variable, with what it lists TIED to the program's text (the seventh form; the later family's looks); each row that meets fmt, with fmt's text TOLD by the authors' own Lean function (tested against real Go, not proved from fmt's source: count such statements apart). THE CARD IS WHAT COUNTS. Prove the row's statement (the work); the ties are given (YteebgnhhjlgnjaaGreatDoorTie.lean); close each card by the builder's one call (the guide's Derived/Test/ToyasCard.lean, 'card_holds'). Laid BY PROGRAM, IN A SANDBOX (cutbox-door.mjs). By AI agents, Wed Nov 11 2026. No macro, syntax, notation, axiom, sorry.
-/
import Derived.Test.YteebgnhhjlgnjaaGreatDoorRows
import GoSem.ClaimSeven
namespace Go.Proofs.YteebgnhhjlgnjaaGreatDoor
namespace Rows

/-- THE TIED CARD OF 'laws.FnSchemaAdd'. -/
def fnSchemaAddCard : Claim7 := { stood := { row := fnSchemaAddRow, standIns := [], harness := (true, "067e6af085d9fb4b3d38b97ae67318ec8355bffc21ff69cd29125d29f45aa49f"), looks := true }, kinds := [], alts := [], laidByText := true, laidKinds := [.data, .pinned], laidTests := true, laidLooks := .later }
def FnSchemaAddCardSaid : Prop := Claim7.holds Tryz.pinned (.plain (OpenSpec.ofChange fnSchemaAddSpec)) fnSchemaAddCard

/-- THE TIED CARD OF 'laws.FnFieldsSame'. -/
def fnFieldsSameCard : Claim7 := { stood := { row := fnFieldsSameRow, standIns := [], harness := (true, "067e6af085d9fb4b3d38b97ae67318ec8355bffc21ff69cd29125d29f45aa49f"), looks := true }, kinds := [], alts := [], laidByText := true, laidKinds := [.data, .pinned], laidTests := true, laidLooks := .later }
def FnFieldsSameCardSaid : Prop := Claim7.holds Tryz.pinned (.plain (OpenSpec.ofChange fnFieldsSameSpec)) fnFieldsSameCard

/-- THE TIED CARD OF 'laws.FnTypesSame'. -/
def fnTypesSameCard : Claim7 := { stood := { row := fnTypesSameRow, standIns := [], harness := (true, "067e6af085d9fb4b3d38b97ae67318ec8355bffc21ff69cd29125d29f45aa49f"), looks := true }, kinds := [], alts := [], laidByText := true, laidKinds := [.data, .pinned], laidTests := true, laidLooks := .later }
def FnTypesSameCardSaid : Prop := Claim7.holds Tryz.pinned (.plain (OpenSpec.ofChange fnTypesSameSpec)) fnTypesSameCard

/-- THE SECOND FORM's CARD OF 'laws.FnSchemaAdd'. -/
def fnSchemaAddUptoCard : Claim7 := { stood := { row := fnSchemaAddUptoRow, standIns := [], harness := (true, "067e6af085d9fb4b3d38b97ae67318ec8355bffc21ff69cd29125d29f45aa49f"), looks := true }, kinds := [], alts := [], laidByText := true, laidKinds := [.data, .pinned], laidTests := true, laidLooks := .later }
def FnSchemaAddUptoCardSaid : Prop := Claim7.holds Tryz.pinned (.plain (OpenSpec.upto fnSchemaAddSpec)) fnSchemaAddUptoCard

/-- THE SECOND FORM's CARD OF 'laws.FnFieldsSame'. -/
def fnFieldsSameUptoCard : Claim7 := { stood := { row := fnFieldsSameUptoRow, standIns := [], harness := (true, "067e6af085d9fb4b3d38b97ae67318ec8355bffc21ff69cd29125d29f45aa49f"), looks := true }, kinds := [], alts := [], laidByText := true, laidKinds := [.data, .pinned], laidTests := true, laidLooks := .later }
def FnFieldsSameUptoCardSaid : Prop := Claim7.holds Tryz.pinned (.plain (OpenSpec.upto fnFieldsSameSpec)) fnFieldsSameUptoCard

/-- THE SECOND FORM's CARD OF 'laws.FnTypesSame'. -/
def fnTypesSameUptoCard : Claim7 := { stood := { row := fnTypesSameUptoRow, standIns := [], harness := (true, "067e6af085d9fb4b3d38b97ae67318ec8355bffc21ff69cd29125d29f45aa49f"), looks := true }, kinds := [], alts := [], laidByText := true, laidKinds := [.data, .pinned], laidTests := true, laidLooks := .later }
def FnTypesSameUptoCardSaid : Prop := Claim7.holds Tryz.pinned (.plain (OpenSpec.upto fnTypesSameSpec)) fnTypesSameUptoCard
end Rows
end Go.Proofs.YteebgnhhjlgnjaaGreatDoor
