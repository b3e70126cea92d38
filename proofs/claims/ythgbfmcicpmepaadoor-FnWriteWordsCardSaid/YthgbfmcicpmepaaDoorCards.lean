/-
  DERIVED. GIVEN WITH THE SEED: THE CARDS: each row of YthgbfmcicpmepaaDoorRows.lean that lists a variable, with what it lists TIED to the program's text (the seventh form; the later family's looks); each row that meets fmt, with fmt's text TOLD by the authors' own Lean function (tested against real Go, not proved from fmt's source: count such statements apart). THE CARD IS WHAT COUNTS. Prove the row's statement (the work); the ties are given (YthgbfmcicpmepaaDoorTie.lean); close each card by the builder's one call (the guide's Derived/Test/ToyasCard.lean, 'card_holds'). Laid BY PROGRAM, IN A SANDBOX (cutbox-door.mjs). By AI agents, Wed Nov 11 2026. No macro, syntax, notation, axiom, sorry.
-/
import Derived.Test.YthgbfmcicpmepaaDoorRows
import GoSem.ClaimSeven
namespace Go.Proofs.YthgbfmcicpmepaaDoor
namespace Rows

/-- THE TIED CARD OF 'laws.FnWriteWords'. -/
def fnWriteWordsCard : Claim7 := { stood := { row := fnWriteWordsRow, standIns := [], harness := (true, "52717be913fca4f37ee03dcded04e2258cced1a2e6cdeb81f00615ba4cae1fa9"), looks := false }, kinds := [], alts := [], laidByText := true, laidKinds := [.data], laidTests := true, laidLooks := .later }
def FnWriteWordsCardSaid : Prop := Claim7.holds Tryd.pinned (.plain (OpenSpec.ofChange fnWriteWordsSpec)) fnWriteWordsCard

/-- THE TIED CARD OF 'laws.FnSameBits'. -/
def fnSameBitsCard : Claim7 := { stood := { row := fnSameBitsRow, standIns := [], harness := (true, "52717be913fca4f37ee03dcded04e2258cced1a2e6cdeb81f00615ba4cae1fa9"), looks := false }, kinds := [], alts := [], laidByText := true, laidKinds := [.data], laidTests := true, laidLooks := .later }
def FnSameBitsCardSaid : Prop := Claim7.holds Tryd.pinned (.plain (OpenSpec.ofChange fnSameBitsSpec)) fnSameBitsCard

/-- THE TIED CARD OF 'laws.FnCopyBits'. -/
def fnCopyBitsCard : Claim7 := { stood := { row := fnCopyBitsRow, standIns := [], harness := (true, "52717be913fca4f37ee03dcded04e2258cced1a2e6cdeb81f00615ba4cae1fa9"), looks := false }, kinds := [], alts := [], laidByText := true, laidKinds := [.data], laidTests := true, laidLooks := .later }
def FnCopyBitsCardSaid : Prop := Claim7.holds Tryd.pinned (.plain (OpenSpec.ofChange fnCopyBitsSpec)) fnCopyBitsCard

/-- THE SECOND FORM's CARD OF 'laws.FnWriteWords'. -/
def fnWriteWordsUptoCard : Claim7 := { stood := { row := fnWriteWordsUptoRow, standIns := [], harness := (true, "52717be913fca4f37ee03dcded04e2258cced1a2e6cdeb81f00615ba4cae1fa9"), looks := false }, kinds := [], alts := [], laidByText := true, laidKinds := [.data], laidTests := true, laidLooks := .later }
def FnWriteWordsUptoCardSaid : Prop := Claim7.holds Tryd.pinned (.plain (OpenSpec.upto fnWriteWordsSpec)) fnWriteWordsUptoCard

/-- THE SECOND FORM's CARD OF 'laws.FnSameBits'. -/
def fnSameBitsUptoCard : Claim7 := { stood := { row := fnSameBitsUptoRow, standIns := [], harness := (true, "52717be913fca4f37ee03dcded04e2258cced1a2e6cdeb81f00615ba4cae1fa9"), looks := false }, kinds := [], alts := [], laidByText := true, laidKinds := [.data], laidTests := true, laidLooks := .later }
def FnSameBitsUptoCardSaid : Prop := Claim7.holds Tryd.pinned (.plain (OpenSpec.upto fnSameBitsSpec)) fnSameBitsUptoCard

/-- THE SECOND FORM's CARD OF 'laws.FnCopyBits'. -/
def fnCopyBitsUptoCard : Claim7 := { stood := { row := fnCopyBitsUptoRow, standIns := [], harness := (true, "52717be913fca4f37ee03dcded04e2258cced1a2e6cdeb81f00615ba4cae1fa9"), looks := false }, kinds := [], alts := [], laidByText := true, laidKinds := [.data], laidTests := true, laidLooks := .later }
def FnCopyBitsUptoCardSaid : Prop := Claim7.holds Tryd.pinned (.plain (OpenSpec.upto fnCopyBitsSpec)) fnCopyBitsUptoCard
end Rows
end Go.Proofs.YthgbfmcicpmepaaDoor
