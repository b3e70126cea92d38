/-
  DERIVED. GIVEN WITH THE SEED: THE PROGRAM's TIES (one call each: nine closed facts by the kernel) AND EACH ROW's TIE, after the 31st guide's Derived/Test/Toyas{Tie, Card}.lean. No idea stands in it: it is a product of the set-up. Laid BY PROGRAM, IN A SANDBOX (cutbox-door.mjs). By AI agents, Wed Nov 11 2026. No macro, syntax, notation, axiom, sorry.
-/
import Derived.Test.YthgbfmcicpmepaaDoorRows
import Derived.LaidByTextLater
import Derived.SevenTiedAt
import Derived.LaidSub
import Derived.LaidOnce
namespace Go.Proofs.YthgbfmcicpmepaaDoor
open Go
set_option maxRecDepth 100000
theorem seatTie1 : Tryd.prog.laidByTextLater [("given.example/pub-fletching/pub/arrow/arrow/bitutil.BitMask", Rows.laid_given_example_pub_fletching_pub_arrow_arrow_bitutil_BitMask)] [.data] true :=
  Program.laidByTextLater_by_one 14 8 9 (by kernel_rfl) (by kernel_rfl) (by kernel_rfl) (by kernel_rfl) (by kernel_rfl) (by kernel_rfl) (fun _ _ => by kernel_rfl)
theorem noOwnUnsafe : Tryd.pinned.checked.prog.headLifts.contains "ownunsafe" = false := by kernel_rfl
theorem tie : Tryd.prog.laidByTextLater [("given.example/pub-fletching/pub/arrow/arrow/bitutil.BitMask", Rows.laid_given_example_pub_fletching_pub_arrow_arrow_bitutil_BitMask)] [.data] true :=
  Program.laidByTextLater.sub seatTie1 ["given.example/pub-fletching/pub/arrow/arrow/bitutil.BitMask"] (by kernel_rfl) (by kernel_rfl)
theorem fnWriteWords_row_tie : Rows.fnWriteWordsRow.laidByTextAt .later Tryd.pinned [.data] true :=
  OpenClaim.laidByTextAt_later rfl rfl tie noOwnUnsafe
theorem fnSameBits_row_tie : Rows.fnSameBitsRow.laidByTextAt .later Tryd.pinned [.data] true :=
  OpenClaim.laidByTextAt_later rfl rfl tie noOwnUnsafe
theorem fnCopyBits_row_tie : Rows.fnCopyBitsRow.laidByTextAt .later Tryd.pinned [.data] true :=
  OpenClaim.laidByTextAt_later rfl rfl tie noOwnUnsafe
theorem fnWriteWordsUpto_row_tie : Rows.fnWriteWordsUptoRow.laidByTextAt .later Tryd.pinned [.data] true :=
  OpenClaim.laidByTextAt_later rfl rfl tie noOwnUnsafe
theorem fnSameBitsUpto_row_tie : Rows.fnSameBitsUptoRow.laidByTextAt .later Tryd.pinned [.data] true :=
  OpenClaim.laidByTextAt_later rfl rfl tie noOwnUnsafe
theorem fnCopyBitsUpto_row_tie : Rows.fnCopyBitsUptoRow.laidByTextAt .later Tryd.pinned [.data] true :=
  OpenClaim.laidByTextAt_later rfl rfl tie noOwnUnsafe
end Go.Proofs.YthgbfmcicpmepaaDoor
