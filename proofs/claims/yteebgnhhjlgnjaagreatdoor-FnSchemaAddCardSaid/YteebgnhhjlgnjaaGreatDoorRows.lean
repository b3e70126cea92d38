/-
  NARROWER THAN 'FOR EVERY INPUT', by the rows' own cells (each row's printed sentence says how): FnSchemaAdd: loops, laid · FnFieldsSame: loops, laid · FnTypesSame: loops, laid.
  DERIVED. THE GIVEN ROWS OF THIS SEAT. 3 by the template 'for every input the law returns true; each argument reads behind the call as it read before'; 0 by the template 'total and deterministic' (their statements: YteebgnhhjlgnjaaGreatDoorTotals.lean).
  GIVEN WITH THE SEED: the statements are not yours to turn. If you find one false, say at which input.
  Laid BY PROGRAM, IN A SANDBOX (cutbox-rows.mjs): the forced cells as the released guide's own fill.sh prints them over the translation 7c276a9f5e2a8234… (all of the seat's roots in one cut). By AI agents, Wed Nov 11 2026. No macro, syntax, notation, axiom, sorry.
-/
import Derived.Test.YteebgnhhjlgnjaaGreatDoorChecked
import GoSem.PinnedTables
import GoSem.Claim
import GoSem.ClaimJoined
import GoSem.ClaimMapViews
import Derived.JoinedTies
import Derived.KernelRfl
namespace Go.Proofs.YteebgnhhjlgnjaaGreatDoor
/- THE CELL 'sum', in the pinned program and in every row, IS THE sha256 OF THE DUMP (.gsa) THAT YteebgnhhjlgnjaaGreatDoorProg.lean LOADS. Nothing in Lean hashes anything: it is a label: what it is worth is what the hold of that sum in a sandbox is worth. -/
noncomputable def Tryz.pinned : Pinned := { name := "yteebgnhhjlgnjaagreatdoor", sum := "7c276a9f5e2a823429c804f89b23b1b6e0bf4076195d04bb09d2b5f3be6c9eea", checked := Tryz.checked }
namespace Rows
def none {H : Type} : Left H := { results := [], args := [] }

/- WHAT THE LISTED PACKAGE-LEVEL VARIABLES READ AS WHEN THE CALL BEGINS. Each datum BY PROGRAM (the guide's laid-datum.mjs) off the statement by which the dump's own 'gosem.cut.vars' lays the variable. In a bare row this is a premise. The card (YteebgnhhjlgnjaaGreatDoorCards.lean) ties it to the program's text. -/
def laid_unicode_utf8_acceptRanges {H : Type} : DataW H := .agg [.agg [.lit (.int .u8 128), .lit (.int .u8 191)], .agg [.lit (.int .u8 160), .lit (.int .u8 191)], .agg [.lit (.int .u8 128), .lit (.int .u8 159)], .agg [.lit (.int .u8 144), .lit (.int .u8 191)], .agg [.lit (.int .u8 128), .lit (.int .u8 143)], .agg [.lit (.int .u8 0), .lit (.int .u8 0)], .agg [.lit (.int .u8 0), .lit (.int .u8 0)], .agg [.lit (.int .u8 0), .lit (.int .u8 0)], .agg [.lit (.int .u8 0), .lit (.int .u8 0)], .agg [.lit (.int .u8 0), .lit (.int .u8 0)], .agg [.lit (.int .u8 0), .lit (.int .u8 0)], .agg [.lit (.int .u8 0), .lit (.int .u8 0)], .agg [.lit (.int .u8 0), .lit (.int .u8 0)], .agg [.lit (.int .u8 0), .lit (.int .u8 0)], .agg [.lit (.int .u8 0), .lit (.int .u8 0)], .agg [.lit (.int .u8 0), .lit (.int .u8 0)]]
/-- One of Go's own tables, pinned by name: the form's constant. -/
def laid_unicode_utf8_first : DataW Unit := Go.Pinned.utf8First

/-- 'laws.FnSchemaAdd': WHATEVER THE INPUT: true; the input reads as it did. -/
def fnSchemaAddSpec : ChangeSpec := { name := "fnSchemaAdd", fn := fun _ => fun
  | [d1, d2, d3] => { results := [.lit (.bool true)], args := [d1, d2, d3] }
  | _ => none }
def fnSchemaAddRow : OpenClaim := { program := "yteebgnhhjlgnjaagreatdoor", sum := "7c276a9f5e2a823429c804f89b23b1b6e0bf4076195d04bb09d2b5f3be6c9eea", func := "given.example/pub-fletching/laws.FnSchemaAdd", spec := "fnSchemaAdd", unfollowed := true, recurses := true, named := ["unicode/utf8.first", "unicode/utf8.acceptRanges"], loops := true, apart := false, laid := [("unicode/utf8.acceptRanges", laid_unicode_utf8_acceptRanges), ("unicode/utf8.first", laid_unicode_utf8_first)] }
def FnSchemaAddSaid : Prop := fnSchemaAddRow.holds Tryz.pinned (OpenSpec.ofChange fnSchemaAddSpec)

/-- ITS FALSE NEIGHBOUR: 'it returns false'. Refute it at one input. -/
def fnSchemaAddWrong : ChangeSpec := { name := "fnSchemaAdd", fn := fun _ => fun
  | [d1, d2, d3] => { results := [.lit (.bool false)], args := [d1, d2, d3] }
  | _ => none }
def FnSchemaAddWrongFalsely : Prop := fnSchemaAddRow.holds Tryz.pinned (OpenSpec.ofChange fnSchemaAddWrong)

/-- 'laws.FnFieldsSame': WHATEVER THE INPUT: true; the input reads as it did. -/
def fnFieldsSameSpec : ChangeSpec := { name := "fnFieldsSame", fn := fun _ => fun
  | [d1, d2] => { results := [.lit (.bool true)], args := [d1, d2] }
  | _ => none }
def fnFieldsSameRow : OpenClaim := { program := "yteebgnhhjlgnjaagreatdoor", sum := "7c276a9f5e2a823429c804f89b23b1b6e0bf4076195d04bb09d2b5f3be6c9eea", func := "given.example/pub-fletching/laws.FnFieldsSame", spec := "fnFieldsSame", inPlace := ["internal/bytealg.abigen_runtime_cmpstring"], unfollowed := true, recurses := true, named := ["unicode/utf8.first", "unicode/utf8.acceptRanges"], loops := true, apart := false, laid := [("unicode/utf8.acceptRanges", laid_unicode_utf8_acceptRanges), ("unicode/utf8.first", laid_unicode_utf8_first)] }
def FnFieldsSameSaid : Prop := fnFieldsSameRow.holds Tryz.pinned (OpenSpec.ofChange fnFieldsSameSpec)

/-- ITS FALSE NEIGHBOUR: 'it returns false'. Refute it at one input. -/
def fnFieldsSameWrong : ChangeSpec := { name := "fnFieldsSame", fn := fun _ => fun
  | [d1, d2] => { results := [.lit (.bool false)], args := [d1, d2] }
  | _ => none }
def FnFieldsSameWrongFalsely : Prop := fnFieldsSameRow.holds Tryz.pinned (OpenSpec.ofChange fnFieldsSameWrong)

/-- 'laws.FnTypesSame': WHATEVER THE INPUT: true; the input reads as it did. -/
def fnTypesSameSpec : ChangeSpec := { name := "fnTypesSame", fn := fun _ => fun
  | [d1, d2] => { results := [.lit (.bool true)], args := [d1, d2] }
  | _ => none }
def fnTypesSameRow : OpenClaim := { program := "yteebgnhhjlgnjaagreatdoor", sum := "7c276a9f5e2a823429c804f89b23b1b6e0bf4076195d04bb09d2b5f3be6c9eea", func := "given.example/pub-fletching/laws.FnTypesSame", spec := "fnTypesSame", inPlace := ["internal/bytealg.abigen_runtime_cmpstring"], unfollowed := true, recurses := true, named := ["unicode/utf8.first", "unicode/utf8.acceptRanges"], loops := true, apart := false, laid := [("unicode/utf8.acceptRanges", laid_unicode_utf8_acceptRanges), ("unicode/utf8.first", laid_unicode_utf8_first)] }
def FnTypesSameSaid : Prop := fnTypesSameRow.holds Tryz.pinned (OpenSpec.ofChange fnTypesSameSpec)

/-- ITS FALSE NEIGHBOUR: 'it returns false'. Refute it at one input. -/
def fnTypesSameWrong : ChangeSpec := { name := "fnTypesSame", fn := fun _ => fun
  | [d1, d2] => { results := [.lit (.bool false)], args := [d1, d2] }
  | _ => none }
def FnTypesSameWrongFalsely : Prop := fnTypesSameRow.holds Tryz.pinned (OpenSpec.ofChange fnTypesSameWrong)

/- THE SECOND FORM. 'bulk': how many values and letters a reading holds, each counted each time it is reached (what is shared counts as often as it is met; a slice's spare places count too). A statement '..UptoSaid' is the law's where the arguments, and the package variables that the reading takes, are together of bulk at most 1048576: NARROWER than '..Said'. Prove '..Said' where nothing that the law and all that it calls make is longer than what came in: it says more and counts as full. Else prove '..UptoSaid'. A law counts once. -/
mutual
def uptoBulk {H : Type} : DataW H → Nat
  | .lit (.string bytes) => bytes.length + 1
  | .lit _ => 1
  | .nil => 1
  | .ptr d => uptoBulk d + 1
  | .slice elems spare => uptoBulkAll elems + uptoBulkAll spare + 1
  | .agg parts => uptoBulkAll parts + 1
  | .iface _ d => uptoBulk d + 1
  | .map entries => uptoBulkEntries entries + 1
  | .held _ => 1
def uptoBulkAll {H : Type} : List (DataW H) → Nat
  | [] => 0
  | d :: r => uptoBulk d + uptoBulkAll r
def uptoBulkEntries {H : Type} : List (Lit × DataW H) → Nat
  | [] => 0
  | x :: r => uptoBulkEntry x + uptoBulkEntries r
def uptoBulkEntry {H : Type} : Lit × DataW H → Nat
  | (.string bytes, d) => bytes.length + uptoBulk d + 1
  | (_, d) => uptoBulk d + 1
 end
def uptoSmall : (H : Type) → List (DataW H) → Bool := fun _ ds => decide (uptoBulkAll ds ≤ 1048576)
def OpenSpec.upto (s : _root_.Go.ChangeSpec) : _root_.Go.OpenSpec := { _root_.Go.OpenSpec.ofChange s with cond := some uptoSmall }

/-- 'laws.FnSchemaAdd', WHERE WHAT IT READS IS OF BULK AT MOST 1048576: true; the input reads as it did. -/
def fnSchemaAddUptoRow : OpenClaim := { program := "yteebgnhhjlgnjaagreatdoor", sum := "7c276a9f5e2a823429c804f89b23b1b6e0bf4076195d04bb09d2b5f3be6c9eea", func := "given.example/pub-fletching/laws.FnSchemaAdd", spec := "fnSchemaAdd", unfollowed := true, recurses := true, named := ["unicode/utf8.first", "unicode/utf8.acceptRanges"], loops := true, apart := false, laid := [("unicode/utf8.acceptRanges", laid_unicode_utf8_acceptRanges), ("unicode/utf8.first", laid_unicode_utf8_first)], narrowed := true }
def FnSchemaAddUptoSaid : Prop := fnSchemaAddUptoRow.holds Tryz.pinned (OpenSpec.upto fnSchemaAddSpec)

/-- 'laws.FnFieldsSame', WHERE WHAT IT READS IS OF BULK AT MOST 1048576: true; the input reads as it did. -/
def fnFieldsSameUptoRow : OpenClaim := { program := "yteebgnhhjlgnjaagreatdoor", sum := "7c276a9f5e2a823429c804f89b23b1b6e0bf4076195d04bb09d2b5f3be6c9eea", func := "given.example/pub-fletching/laws.FnFieldsSame", spec := "fnFieldsSame", inPlace := ["internal/bytealg.abigen_runtime_cmpstring"], unfollowed := true, recurses := true, named := ["unicode/utf8.first", "unicode/utf8.acceptRanges"], loops := true, apart := false, laid := [("unicode/utf8.acceptRanges", laid_unicode_utf8_acceptRanges), ("unicode/utf8.first", laid_unicode_utf8_first)], narrowed := true }
def FnFieldsSameUptoSaid : Prop := fnFieldsSameUptoRow.holds Tryz.pinned (OpenSpec.upto fnFieldsSameSpec)

/-- 'laws.FnTypesSame', WHERE WHAT IT READS IS OF BULK AT MOST 1048576: true; the input reads as it did. -/
def fnTypesSameUptoRow : OpenClaim := { program := "yteebgnhhjlgnjaagreatdoor", sum := "7c276a9f5e2a823429c804f89b23b1b6e0bf4076195d04bb09d2b5f3be6c9eea", func := "given.example/pub-fletching/laws.FnTypesSame", spec := "fnTypesSame", inPlace := ["internal/bytealg.abigen_runtime_cmpstring"], unfollowed := true, recurses := true, named := ["unicode/utf8.first", "unicode/utf8.acceptRanges"], loops := true, apart := false, laid := [("unicode/utf8.acceptRanges", laid_unicode_utf8_acceptRanges), ("unicode/utf8.first", laid_unicode_utf8_first)], narrowed := true }
def FnTypesSameUptoSaid : Prop := fnTypesSameUptoRow.holds Tryz.pinned (OpenSpec.upto fnTypesSameSpec)

end Rows
end Go.Proofs.YteebgnhhjlgnjaaGreatDoor
