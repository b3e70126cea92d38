/-
  NARROWER THAN 'FOR EVERY INPUT', by the rows' own cells (each row's printed sentence says how): FnWriteWords: laid · FnSameBits: laid · FnCopyBits: laid.
  DERIVED. THE GIVEN ROWS OF THIS SEAT. 3 by the template 'for every input the law returns true; each argument reads behind the call as it read before'; 0 by the template 'total and deterministic' (their statements: YthgbfmcicpmepaaDoorTotals.lean).
  GIVEN WITH THE SEED: the statements are not yours to turn. If you find one false, say at which input.
  Laid BY PROGRAM, IN A SANDBOX (cutbox-rows.mjs): the forced cells as the released guide's own fill.sh prints them over the translation 1b9652fb61c2af31… (all of the seat's roots in one cut). By AI agents, Wed Nov 11 2026. No macro, syntax, notation, axiom, sorry.
-/
import Derived.Test.YthgbfmcicpmepaaDoorChecked
import GoSem.Claim
import GoSem.ClaimJoined
import GoSem.ClaimMapViews
import Derived.JoinedTies
import Derived.KernelRfl
namespace Go.Proofs.YthgbfmcicpmepaaDoor
/- THE CELL 'sum', in the pinned program and in every row, IS THE sha256 OF THE DUMP (.gsa) THAT YthgbfmcicpmepaaDoorProg.lean LOADS. Nothing in Lean hashes anything: it is a label: what it is worth is what the hold of that sum in a sandbox is worth. -/
noncomputable def Tryd.pinned : Pinned := { name := "ythgbfmcicpmepaadoor", sum := "1b9652fb61c2af31d140f18c85c8cb82cc5821b722beb7a87ac9ba074e30a214", checked := Tryd.checked }
namespace Rows
def none {H : Type} : Left H := { results := [], args := [] }

/- WHAT THE LISTED PACKAGE-LEVEL VARIABLES READ AS WHEN THE CALL BEGINS. Each datum BY PROGRAM (the guide's laid-datum.mjs) off the statement by which the dump's own 'gosem.cut.vars' lays the variable. In a bare row this is a premise. The card (YthgbfmcicpmepaaDoorCards.lean) ties it to the program's text. -/
def laid_given_example_pub_fletching_pub_arrow_arrow_bitutil_BitMask {H : Type} : DataW H := .agg [.lit (.int .u8 1), .lit (.int .u8 2), .lit (.int .u8 4), .lit (.int .u8 8), .lit (.int .u8 16), .lit (.int .u8 32), .lit (.int .u8 64), .lit (.int .u8 128)]

/-- 'laws.FnWriteWords': WHATEVER THE INPUT: true; the input reads as it did. -/
def fnWriteWordsSpec : ChangeSpec := { name := "fnWriteWords", vars := ["given.example/pub-fletching/pub/arrow/arrow/bitutil.BitMask"], fn := fun _ => fun
  | [d1, d2, d3, g1] => { results := [.lit (.bool true)], args := [d1, d2, d3], vars := [g1] }
  | _ => none }
def fnWriteWordsRow : OpenClaim := { program := "ythgbfmcicpmepaadoor", sum := "1b9652fb61c2af31d140f18c85c8cb82cc5821b722beb7a87ac9ba074e30a214", func := "given.example/pub-fletching/laws.FnWriteWords", spec := "fnWriteWords", unfollowed := true, recurses := true, named := ["encoding/binary.LittleEndian", "given.example/pub-fletching/pub/arrow/arrow/bitutil.BitMask"], apart := false, laid := [("given.example/pub-fletching/pub/arrow/arrow/bitutil.BitMask", laid_given_example_pub_fletching_pub_arrow_arrow_bitutil_BitMask)] }
def FnWriteWordsSaid : Prop := fnWriteWordsRow.holds Tryd.pinned (OpenSpec.ofChange fnWriteWordsSpec)

/-- ITS FALSE NEIGHBOUR: 'it returns false'. Refute it at one input. -/
def fnWriteWordsWrong : ChangeSpec := { name := "fnWriteWords", vars := ["given.example/pub-fletching/pub/arrow/arrow/bitutil.BitMask"], fn := fun _ => fun
  | [d1, d2, d3, g1] => { results := [.lit (.bool false)], args := [d1, d2, d3], vars := [g1] }
  | _ => none }
def FnWriteWordsWrongFalsely : Prop := fnWriteWordsRow.holds Tryd.pinned (OpenSpec.ofChange fnWriteWordsWrong)

/-- 'laws.FnSameBits': WHATEVER THE INPUT: true; the input reads as it did. -/
def fnSameBitsSpec : ChangeSpec := { name := "fnSameBits", vars := ["given.example/pub-fletching/pub/arrow/arrow/bitutil.BitMask"], fn := fun _ => fun
  | [d1, d2, d3, d4, d5, g1] => { results := [.lit (.bool true)], args := [d1, d2, d3, d4, d5], vars := [g1] }
  | _ => none }
def fnSameBitsRow : OpenClaim := { program := "ythgbfmcicpmepaadoor", sum := "1b9652fb61c2af31d140f18c85c8cb82cc5821b722beb7a87ac9ba074e30a214", func := "given.example/pub-fletching/laws.FnSameBits", spec := "fnSameBits", named := ["given.example/pub-fletching/pub/arrow/arrow/bitutil.BitMask", "encoding/binary.LittleEndian"], apart := false, laid := [("given.example/pub-fletching/pub/arrow/arrow/bitutil.BitMask", laid_given_example_pub_fletching_pub_arrow_arrow_bitutil_BitMask)] }
def FnSameBitsSaid : Prop := fnSameBitsRow.holds Tryd.pinned (OpenSpec.ofChange fnSameBitsSpec)

/-- ITS FALSE NEIGHBOUR: 'it returns false'. Refute it at one input. -/
def fnSameBitsWrong : ChangeSpec := { name := "fnSameBits", vars := ["given.example/pub-fletching/pub/arrow/arrow/bitutil.BitMask"], fn := fun _ => fun
  | [d1, d2, d3, d4, d5, g1] => { results := [.lit (.bool false)], args := [d1, d2, d3, d4, d5], vars := [g1] }
  | _ => none }
def FnSameBitsWrongFalsely : Prop := fnSameBitsRow.holds Tryd.pinned (OpenSpec.ofChange fnSameBitsWrong)

/-- 'laws.FnCopyBits': WHATEVER THE INPUT: true; the input reads as it did. -/
def fnCopyBitsSpec : ChangeSpec := { name := "fnCopyBits", vars := ["given.example/pub-fletching/pub/arrow/arrow/bitutil.BitMask"], fn := fun _ => fun
  | [d1, d2, d3, d4, d5, g1] => { results := [.lit (.bool true)], args := [d1, d2, d3, d4, d5], vars := [g1] }
  | _ => none }
def fnCopyBitsRow : OpenClaim := { program := "ythgbfmcicpmepaadoor", sum := "1b9652fb61c2af31d140f18c85c8cb82cc5821b722beb7a87ac9ba074e30a214", func := "given.example/pub-fletching/laws.FnCopyBits", spec := "fnCopyBits", unfollowed := true, recurses := true, named := ["encoding/binary.LittleEndian", "given.example/pub-fletching/pub/arrow/arrow/bitutil.BitMask"], apart := false, laid := [("given.example/pub-fletching/pub/arrow/arrow/bitutil.BitMask", laid_given_example_pub_fletching_pub_arrow_arrow_bitutil_BitMask)] }
def FnCopyBitsSaid : Prop := fnCopyBitsRow.holds Tryd.pinned (OpenSpec.ofChange fnCopyBitsSpec)

/-- ITS FALSE NEIGHBOUR: 'it returns false'. Refute it at one input. -/
def fnCopyBitsWrong : ChangeSpec := { name := "fnCopyBits", vars := ["given.example/pub-fletching/pub/arrow/arrow/bitutil.BitMask"], fn := fun _ => fun
  | [d1, d2, d3, d4, d5, g1] => { results := [.lit (.bool false)], args := [d1, d2, d3, d4, d5], vars := [g1] }
  | _ => none }
def FnCopyBitsWrongFalsely : Prop := fnCopyBitsRow.holds Tryd.pinned (OpenSpec.ofChange fnCopyBitsWrong)

/- THE SECOND FORM. 'bulk': how many values and letters a reading holds, each counted each time it is reached (what is shared counts as often as it is met; a slice's spare places count too). A statement '..UptoSaid' is the law's where the arguments, and the package variables that the reading takes, are together of bulk at most 1048576: NARROWER than '..Said'. Prove '..Said' where nothing that the law and all that it calls make is longer than what came in: it says more and counts as full. Else prove '..UptoSaid'. A law counts once. -/
mutual
def uptoBulk {H : Type} : DataW H → Nat
  | .lit (.string bytes) => bytes.length + 1
  | .lit _ => 1
  | .nil => 1
  | .ptr d => uptoBulk d + 1
  | .slice elems spare => uptoBulkAll elems + uptoBulkAll spare + 1
  | .agg parts => uptoBulkAll parts + 1
  | .iface _ d => uptoBulk d + 1
  | .map entries => uptoBulkEntries entries + 1
  | .held _ => 1
def uptoBulkAll {H : Type} : List (DataW H) → Nat
  | [] => 0
  | d :: r => uptoBulk d + uptoBulkAll r
def uptoBulkEntries {H : Type} : List (Lit × DataW H) → Nat
  | [] => 0
  | x :: r => uptoBulkEntry x + uptoBulkEntries r
def uptoBulkEntry {H : Type} : Lit × DataW H → Nat
  | (.string bytes, d) => bytes.length + uptoBulk d + 1
  | (_, d) => uptoBulk d + 1
 end
def uptoSmall : (H : Type) → List (DataW H) → Bool := fun _ ds => decide (uptoBulkAll ds ≤ 1048576)
def OpenSpec.upto (s : _root_.Go.ChangeSpec) : _root_.Go.OpenSpec := { _root_.Go.OpenSpec.ofChange s with cond := some uptoSmall }

/-- 'laws.FnWriteWords', WHERE WHAT IT READS IS OF BULK AT MOST 1048576: true; the input reads as it did. -/
def fnWriteWordsUptoRow : OpenClaim := { program := "ythgbfmcicpmepaadoor", sum := "1b9652fb61c2af31d140f18c85c8cb82cc5821b722beb7a87ac9ba074e30a214", func := "given.example/pub-fletching/laws.FnWriteWords", spec := "fnWriteWords", unfollowed := true, recurses := true, named := ["encoding/binary.LittleEndian", "given.example/pub-fletching/pub/arrow/arrow/bitutil.BitMask"], apart := false, laid := [("given.example/pub-fletching/pub/arrow/arrow/bitutil.BitMask", laid_given_example_pub_fletching_pub_arrow_arrow_bitutil_BitMask)], narrowed := true }
def FnWriteWordsUptoSaid : Prop := fnWriteWordsUptoRow.holds Tryd.pinned (OpenSpec.upto fnWriteWordsSpec)

/-- 'laws.FnSameBits', WHERE WHAT IT READS IS OF BULK AT MOST 1048576: true; the input reads as it did. -/
def fnSameBitsUptoRow : OpenClaim := { program := "ythgbfmcicpmepaadoor", sum := "1b9652fb61c2af31d140f18c85c8cb82cc5821b722beb7a87ac9ba074e30a214", func := "given.example/pub-fletching/laws.FnSameBits", spec := "fnSameBits", named := ["given.example/pub-fletching/pub/arrow/arrow/bitutil.BitMask", "encoding/binary.LittleEndian"], apart := false, laid := [("given.example/pub-fletching/pub/arrow/arrow/bitutil.BitMask", laid_given_example_pub_fletching_pub_arrow_arrow_bitutil_BitMask)], narrowed := true }
def FnSameBitsUptoSaid : Prop := fnSameBitsUptoRow.holds Tryd.pinned (OpenSpec.upto fnSameBitsSpec)

/-- 'laws.FnCopyBits', WHERE WHAT IT READS IS OF BULK AT MOST 1048576: true; the input reads as it did. -/
def fnCopyBitsUptoRow : OpenClaim := { program := "ythgbfmcicpmepaadoor", sum := "1b9652fb61c2af31d140f18c85c8cb82cc5821b722beb7a87ac9ba074e30a214", func := "given.example/pub-fletching/laws.FnCopyBits", spec := "fnCopyBits", unfollowed := true, recurses := true, named := ["encoding/binary.LittleEndian", "given.example/pub-fletching/pub/arrow/arrow/bitutil.BitMask"], apart := false, laid := [("given.example/pub-fletching/pub/arrow/arrow/bitutil.BitMask", laid_given_example_pub_fletching_pub_arrow_arrow_bitutil_BitMask)], narrowed := true }
def FnCopyBitsUptoSaid : Prop := fnCopyBitsUptoRow.holds Tryd.pinned (OpenSpec.upto fnCopyBitsSpec)

end Rows
end Go.Proofs.YthgbfmcicpmepaaDoor
