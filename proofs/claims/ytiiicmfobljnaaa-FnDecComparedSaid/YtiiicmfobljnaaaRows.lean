/-
  No cell of these rows narrows 'for every input' (looked for: loops, veiled, ifaces, maps, wideKeys, modest, calm, conditions, laid).
  DERIVED. THE GIVEN ROWS OF THIS SEAT. 4 by the template 'for every input the law returns true; each argument reads behind the call as it read before'; 0 by the template 'total and deterministic' (their statements: YtiiicmfobljnaaaTotals.lean).
  GIVEN WITH THE SEED: the statements are not yours to turn. If you find one false, say at which input.
  Laid BY PROGRAM, IN A SANDBOX (cutbox-rows.mjs): the forced cells as the released guide's own fill.sh prints them over the translation 2c1b6d2a4b802334… (all of the seat's roots in one cut). By AI agents, Wed Nov 11 2026. No macro, syntax, notation, axiom, sorry.
-/
import Derived.Test.YtiiicmfobljnaaaChecked
import GoSem.Claim
import GoSem.ClaimJoined
import GoSem.ClaimMapViews
import Derived.JoinedTies
import Derived.KernelRfl
namespace Go.Proofs.Ytiiicmfobljnaaa
/- THE CELL 'sum', in the pinned program and in every row, IS THE sha256 OF THE DUMP (.gsa) THAT YtiiicmfobljnaaaProg.lean LOADS. Nothing in Lean hashes anything: it is a label: what it is worth is what the hold of that sum in a sandbox is worth. -/
noncomputable def Try.pinned : Pinned := { name := "ytiiicmfobljnaaa", sum := "2c1b6d2a4b802334d9833c08fec648d4c1aed2cff8e228807922c348a24a79b2", checked := Try.checked }
namespace Rows
def none {H : Type} : Left H := { results := [], args := [] }

/-- 'laws.FnDecDiv': WHATEVER THE INPUT: true; the input reads as it did. -/
def fnDecDivSpec : ChangeSpec := { name := "fnDecDiv", fn := fun _ => fun
  | [d1, d2, d3] => { results := [.lit (.bool true)], args := [d1, d2, d3] }
  | _ => none }
def fnDecDivRow : OpenClaim := { program := "ytiiicmfobljnaaa", sum := "2c1b6d2a4b802334d9833c08fec648d4c1aed2cff8e228807922c348a24a79b2", func := "given.example/pub-fletching/laws.FnDecDiv", spec := "fnDecDiv", apart := false }
def FnDecDivSaid : Prop := fnDecDivRow.holds Try.pinned (OpenSpec.ofChange fnDecDivSpec)

/-- ITS FALSE NEIGHBOUR: 'it returns false'. Refute it at one input. -/
def fnDecDivWrong : ChangeSpec := { name := "fnDecDiv", fn := fun _ => fun
  | [d1, d2, d3] => { results := [.lit (.bool false)], args := [d1, d2, d3] }
  | _ => none }
def FnDecDivWrongFalsely : Prop := fnDecDivRow.holds Try.pinned (OpenSpec.ofChange fnDecDivWrong)

/-- 'laws.FnDecPow': WHATEVER THE INPUT: true; the input reads as it did. -/
def fnDecPowSpec : ChangeSpec := { name := "fnDecPow", fn := fun _ => fun
  | [d1, d2, d3] => { results := [.lit (.bool true)], args := [d1, d2, d3] }
  | _ => none }
def fnDecPowRow : OpenClaim := { program := "ytiiicmfobljnaaa", sum := "2c1b6d2a4b802334d9833c08fec648d4c1aed2cff8e228807922c348a24a79b2", func := "given.example/pub-fletching/laws.FnDecPow", spec := "fnDecPow", apart := false }
def FnDecPowSaid : Prop := fnDecPowRow.holds Try.pinned (OpenSpec.ofChange fnDecPowSpec)

/-- ITS FALSE NEIGHBOUR: 'it returns false'. Refute it at one input. -/
def fnDecPowWrong : ChangeSpec := { name := "fnDecPow", fn := fun _ => fun
  | [d1, d2, d3] => { results := [.lit (.bool false)], args := [d1, d2, d3] }
  | _ => none }
def FnDecPowWrongFalsely : Prop := fnDecPowRow.holds Try.pinned (OpenSpec.ofChange fnDecPowWrong)

/-- 'laws.FnDecSum': WHATEVER THE INPUT: true; the input reads as it did. -/
def fnDecSumSpec : ChangeSpec := { name := "fnDecSum", fn := fun _ => fun
  | [d1, d2, d3, d4] => { results := [.lit (.bool true)], args := [d1, d2, d3, d4] }
  | _ => none }
def fnDecSumRow : OpenClaim := { program := "ytiiicmfobljnaaa", sum := "2c1b6d2a4b802334d9833c08fec648d4c1aed2cff8e228807922c348a24a79b2", func := "given.example/pub-fletching/laws.FnDecSum", spec := "fnDecSum", inPlace := ["math/bits.Sub64", "math/bits.Add64"], apart := false }
def FnDecSumSaid : Prop := fnDecSumRow.holds Try.pinned (OpenSpec.ofChange fnDecSumSpec)

/-- ITS FALSE NEIGHBOUR: 'it returns false'. Refute it at one input. -/
def fnDecSumWrong : ChangeSpec := { name := "fnDecSum", fn := fun _ => fun
  | [d1, d2, d3, d4] => { results := [.lit (.bool false)], args := [d1, d2, d3, d4] }
  | _ => none }
def FnDecSumWrongFalsely : Prop := fnDecSumRow.holds Try.pinned (OpenSpec.ofChange fnDecSumWrong)

/-- 'laws.FnDecCompared': WHATEVER THE INPUT: true; the input reads as it did. -/
def fnDecComparedSpec : ChangeSpec := { name := "fnDecCompared", fn := fun _ => fun
  | [d1, d2, d3] => { results := [.lit (.bool true)], args := [d1, d2, d3] }
  | _ => none }
def fnDecComparedRow : OpenClaim := { program := "ytiiicmfobljnaaa", sum := "2c1b6d2a4b802334d9833c08fec648d4c1aed2cff8e228807922c348a24a79b2", func := "given.example/pub-fletching/laws.FnDecCompared", spec := "fnDecCompared", unfollowed := true, recurses := true, apart := false }
def FnDecComparedSaid : Prop := fnDecComparedRow.holds Try.pinned (OpenSpec.ofChange fnDecComparedSpec)

/-- ITS FALSE NEIGHBOUR: 'it returns false'. Refute it at one input. -/
def fnDecComparedWrong : ChangeSpec := { name := "fnDecCompared", fn := fun _ => fun
  | [d1, d2, d3] => { results := [.lit (.bool false)], args := [d1, d2, d3] }
  | _ => none }
def FnDecComparedWrongFalsely : Prop := fnDecComparedRow.holds Try.pinned (OpenSpec.ofChange fnDecComparedWrong)

/- THE SECOND FORM. 'bulk': how many values and letters a reading holds, each counted each time it is reached (what is shared counts as often as it is met; a slice's spare places count too). A statement '..UptoSaid' is the law's where the arguments, and the package variables that the reading takes, are together of bulk at most 1048576: NARROWER than '..Said'. Prove '..Said' where nothing that the law and all that it calls make is longer than what came in: it says more and counts as full. Else prove '..UptoSaid'. A law counts once. -/
mutual
def uptoBulk {H : Type} : DataW H → Nat
  | .lit (.string bytes) => bytes.length + 1
  | .lit _ => 1
  | .nil => 1
  | .ptr d => uptoBulk d + 1
  | .slice elems spare => uptoBulkAll elems + uptoBulkAll spare + 1
  | .agg parts => uptoBulkAll parts + 1
  | .iface _ d => uptoBulk d + 1
  | .map entries => uptoBulkEntries entries + 1
  | .held _ => 1
def uptoBulkAll {H : Type} : List (DataW H) → Nat
  | [] => 0
  | d :: r => uptoBulk d + uptoBulkAll r
def uptoBulkEntries {H : Type} : List (Lit × DataW H) → Nat
  | [] => 0
  | x :: r => uptoBulkEntry x + uptoBulkEntries r
def uptoBulkEntry {H : Type} : Lit × DataW H → Nat
  | (.string bytes, d) => bytes.length + uptoBulk d + 1
  | (_, d) => uptoBulk d + 1
 end
def uptoSmall : (H : Type) → List (DataW H) → Bool := fun _ ds => decide (uptoBulkAll ds ≤ 1048576)
def OpenSpec.upto (s : _root_.Go.ChangeSpec) : _root_.Go.OpenSpec := { _root_.Go.OpenSpec.ofChange s with cond := some uptoSmall }

/-- 'laws.FnDecDiv', WHERE WHAT IT READS IS OF BULK AT MOST 1048576: true; the input reads as it did. -/
def fnDecDivUptoRow : OpenClaim := { program := "ytiiicmfobljnaaa", sum := "2c1b6d2a4b802334d9833c08fec648d4c1aed2cff8e228807922c348a24a79b2", func := "given.example/pub-fletching/laws.FnDecDiv", spec := "fnDecDiv", apart := false, narrowed := true }
def FnDecDivUptoSaid : Prop := fnDecDivUptoRow.holds Try.pinned (OpenSpec.upto fnDecDivSpec)

/-- 'laws.FnDecPow', WHERE WHAT IT READS IS OF BULK AT MOST 1048576: true; the input reads as it did. -/
def fnDecPowUptoRow : OpenClaim := { program := "ytiiicmfobljnaaa", sum := "2c1b6d2a4b802334d9833c08fec648d4c1aed2cff8e228807922c348a24a79b2", func := "given.example/pub-fletching/laws.FnDecPow", spec := "fnDecPow", apart := false, narrowed := true }
def FnDecPowUptoSaid : Prop := fnDecPowUptoRow.holds Try.pinned (OpenSpec.upto fnDecPowSpec)

/-- 'laws.FnDecSum', WHERE WHAT IT READS IS OF BULK AT MOST 1048576: true; the input reads as it did. -/
def fnDecSumUptoRow : OpenClaim := { program := "ytiiicmfobljnaaa", sum := "2c1b6d2a4b802334d9833c08fec648d4c1aed2cff8e228807922c348a24a79b2", func := "given.example/pub-fletching/laws.FnDecSum", spec := "fnDecSum", inPlace := ["math/bits.Sub64", "math/bits.Add64"], apart := false, narrowed := true }
def FnDecSumUptoSaid : Prop := fnDecSumUptoRow.holds Try.pinned (OpenSpec.upto fnDecSumSpec)

/-- 'laws.FnDecCompared', WHERE WHAT IT READS IS OF BULK AT MOST 1048576: true; the input reads as it did. -/
def fnDecComparedUptoRow : OpenClaim := { program := "ytiiicmfobljnaaa", sum := "2c1b6d2a4b802334d9833c08fec648d4c1aed2cff8e228807922c348a24a79b2", func := "given.example/pub-fletching/laws.FnDecCompared", spec := "fnDecCompared", unfollowed := true, recurses := true, apart := false, narrowed := true }
def FnDecComparedUptoSaid : Prop := fnDecComparedUptoRow.holds Try.pinned (OpenSpec.upto fnDecComparedSpec)

end Rows
end Go.Proofs.Ytiiicmfobljnaaa
